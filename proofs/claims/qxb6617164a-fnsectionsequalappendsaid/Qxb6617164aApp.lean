/-
  Seat b6617164a: the walk of FnSectionsEqualAppend.
-/
import Derived.Test.Qxb6617164aCut
import Derived.Test.Qxb6617164aCat3
import Derived.Deep.RegionHeld3
namespace Go.Proofs.Qxb6617164a
open Go.RowKit

/-- The four local variables, and what they lead to. -/
def Four (w : World) (g1 g2 g3 g4 : Nat) (a1 : Option Addr) (z1 : List ByteArray) (c1 : Nat) (a2 : Option Addr) (z2 : List ByteArray) (c2 : Nat) (a3 : Option Addr) (z3 : List ByteArray) (c3 : Nat) (a4 : Option Addr) (z4 : List ByteArray) (c4 : Nat) (ta tb : ByteArray) (W : World) : Prop :=
  Below w.heap.size w W ∧ (SecAt W g1 a1 z1.length c1 ta ∧ SecAt W g2 a2 z2.length c2 tb ∧ SecAt W g3 a3 z3.length c3 ta ∧ SecAt W g4 a4 z4.length c4 tb) ∧ Strs W a1 z1 ∧ Strs W a2 z2 ∧ Strs W a3 z3 ∧ Strs W a4 z4

theorem Four.below {w : World} {g1 g2 g3 g4 : Nat} {a1 : Option Addr} {z1 : List ByteArray} {c1 : Nat} {a2 : Option Addr} {z2 : List ByteArray} {c2 : Nat} {a3 : Option Addr} {z3 : List ByteArray} {c3 : Nat} {a4 : Option Addr} {z4 : List ByteArray} {c4 : Nat} {ta tb : ByteArray} {W W' : World}
    (h : Four w g1 g2 g3 g4 a1 z1 c1 a2 z2 c2 a3 z3 c3 a4 z4 c4 ta tb W) (hb : Below W.heap.size W W') : Four w g1 g2 g3 g4 a1 z1 c1 a2 z2 c2 a3 z3 c3 a4 z4 c4 ta tb W' := by
  obtain ⟨h0, ⟨h1, h2, h3, h4⟩, s1, s2, s3, s4⟩ := h
  exact ⟨Below.next h0 hb, ⟨h1.below hb, h2.below hb, h3.below hb, h4.below hb⟩, s1.below hb, s2.below hb, s3.below hb, s4.below hb⟩

theorem Four.drew {w : World} {g1 g2 g3 g4 : Nat} {a1 : Option Addr} {z1 : List ByteArray} {c1 : Nat} {a2 : Option Addr} {z2 : List ByteArray} {c2 : Nat} {a3 : Option Addr} {z3 : List ByteArray} {c3 : Nat} {a4 : Option Addr} {z4 : List ByteArray} {c4 : Nat} {ta tb : ByteArray} {W : World}
    (h : Four w g1 g2 g3 g4 a1 z1 c1 a2 z2 c2 a3 z3 c3 a4 z4 c4 ta tb W) : Four w g1 g2 g3 g4 a1 z1 c1 a2 z2 c2 a3 z3 c3 a4 z4 c4 ta tb W.drew := h.below (Below.refl _ _).drew

theorem Four.cells {w : World} {g1 g2 g3 g4 : Nat} {a1 : Option Addr} {z1 : List ByteArray} {c1 : Nat} {a2 : Option Addr} {z2 : List ByteArray} {c2 : Nat} {a3 : Option Addr} {z3 : List ByteArray} {c3 : Nat} {a4 : Option Addr} {z4 : List ByteArray} {c4 : Nat} {ta tb : ByteArray} {W : World}
    (h : Four w g1 g2 g3 g4 a1 z1 c1 a2 z2 c2 a3 z3 c3 a4 z4 c4 ta tb W) :
    W.cell? ⟨g1, 0, none⟩ = some (.slice a1 z1.length c1) ∧ W.cell? ⟨g1, 1, none⟩ = some (.string ta) ∧ W.cell? ⟨g2, 0, none⟩ = some (.slice a2 z2.length c2) ∧ W.cell? ⟨g2, 1, none⟩ = some (.string tb) ∧
    W.cell? ⟨g3, 0, none⟩ = some (.slice a3 z3.length c3) ∧ W.cell? ⟨g3, 1, none⟩ = some (.string ta) ∧ W.cell? ⟨g4, 0, none⟩ = some (.slice a4 z4.length c4) ∧ W.cell? ⟨g4, 1, none⟩ = some (.string tb) := by
  obtain ⟨_, ⟨h1, h2, h3, h4⟩, _⟩ := h
  exact ⟨h1.c0, h1.c1, h2.c0, h2.c1, h3.c0, h3.c1, h4.c0, h4.c1⟩

theorem eqB_snoc {a b x y : List ByteArray} {s t : ByteArray} (hx : Hid (x = a ++ [s])) (hy : Hid (y = b ++ [t])) : eqB x y = (eqB a b && decide (s = t)) := by
  rw [hx.out, hy.out]
  unfold eqB
  rw [Bool.eq_iff_iff]
  simp only [decide_eq_true_eq, Bool.and_eq_true]
  constructor
  · intro h
    have := List.append_inj' h rfl
    simpa using this
  · rintro ⟨h1, h2⟩; rw [h1, h2]

/-- One operation of a drawn region taken first, its slot written out. -/
theorem wpAnyH_take_d {P : Program} {md : Region.Mode} {ops : Array Oper} {Q : Exit → Act → World → Prop} {S : World → Prop} {i : Nat} {oi : Oper} {d : Option Tmp} {v : Value} {fuel : Nat} {listed : Array Bool} {a : Act} {w : World} (hi : ops[i]? = some oi) (hd : oi.dst = d)
    (hs : Region.noSelect ops = true) (hf : Region.free md ops listed i = true) (hr : (Region.ready md ops listed).contains i = true)
    (hQ : ∀ c a w, Q (.panic c) (a.put d v) w → Q (.panic c) a w) (hy : YieldsIf P ops S oi v a) (hS : S w)
    (h : wpAnyH P md ops Q S fuel (listed.setIfInBounds i true) (a.put d v) w) : wpAnyH P md ops Q S (fuel + 1) listed a w := by
  subst hd; exact wpAnyH_take hi hs hf hr hQ hy hS h

theorem hid_nil {x a : List ByteArray} (h : Hid (x = a ++ [])) : Hid (x = a) := by
  have e := h.out
  rw [List.append_nil] at e
  exact e

theorem eqB_nil_right {a x : List ByteArray} {s : ByteArray} (hx : Hid (x = a ++ [s])) : eqB x [] = false := by
  rw [hx.out]; unfold eqB; simp

set_option maxRecDepth 100000 in
set_option maxHeartbeats 4000000 in
theorem app_main (aA : Option Addr) (sA : List ByteArray) (cA : Nat) (ta y : ByteArray) (aB : Option Addr) (sB : List ByteArray) (cB : Nat) (tb z : ByteArray) (w : World)
    (hA : Strs w aA sA) (hB : Strs w aB sB) (hta : ta.size ≤ maxLen) (hy : y.size ≤ maxLen) (htb : tb.size ≤ maxLen) (hz : z.size ≤ maxLen) (hta2 : ta.size ≤ 1048576) (hy2 : y.size ≤ 1048576) (htb2 : tb.size ≤ 1048576) (hz2 : z.size ≤ 1048576) :
    Calls Try.prog 4 #[.slice aA sA.length cA, .string ta, .string y, .slice aB sB.length cB, .string tb, .string z] w fun e w' => Yes w e w' := by
  have HA := (show Hid _ from hA)
  have HB := (show Hid _ from hB)
  have HY := (show Hid _ from And.intro hy hz)
  clear hA hB
  go_enter Try.func4, Try.ntmps4
  go_wp2_with fail
  refine (zzBytesApp_any aA sA cA ta y aB sB cB tb z w HA.out hta hy HB.out htb hz).mono ?_
  rintro e w' ⟨⟨bb, rfl, hbb⟩, hw⟩
  subst w'
  unfold maxLen at hta htb hy hz
  cases bb with
  | false =>
    go_wp2
    go_ret
    exact ⟨rfl, Below.refl _ _⟩
  | true =>
    obtain ⟨lA, lB⟩ := hbb rfl
    clear hbb
    go_wp2_with (first | (go_at_call_of 10 (Value.slice aA sA.length cA); refine (strBytes_any _ aA sA cA _ HA.out (by omega) (by omega)).mono ?_; rintro e w' ⟨⟨r1, rfl, h10, h11⟩, hw⟩; subst w') | (go_at_call_of 10 (Value.slice aB sB.length cB); refine (strBytes_any _ aB sB cB _ HB.out (by omega) (by omega)).mono ?_; rintro e w' ⟨⟨r2, rfl, h20, h21⟩, hw⟩; subst w'))
    · go_ret
      exact ⟨rfl, Below.refl _ _⟩
    clear h10 h11 h20 h21
    refine (copy_any aA sA cA w HA.out lA).mono ?_
    rintro e w1 ⟨z1, a1, c1, E1, rfl, S1, B1⟩
    go_wp2_with fail
    refine (sections_any a1 z1.length c1 ta w1).mono ?_
    rintro e w2 ⟨rfl, B2⟩
    have b2 := Below.new (Below.next B1 B2) (.cells #[.slice a1 z1.length c1, .string ta] 31)
    go_wp2_with fail
    refine (copy_any aB sB cB _ (Strs.below HB.out b2) lB).mono ?_
    rintro e w3 ⟨z2, a2, c2, E2, rfl, S2, B3⟩
    go_wp2_with fail
    refine (sections_any a2 z2.length c2 tb _).mono ?_
    rintro e w4 ⟨rfl, B4⟩
    have b4 := Below.new (Below.next (Below.next b2 B3) B4) (.cells #[.slice a2 z2.length c2, .string tb] 31)
    go_wp2_with fail
    refine (cat3_any aA sA cA y HY.out.1 none [] 0 _ (Strs.below HA.out b4) (Strs.nil _ _) lA (by simp)).mono ?_
    rintro e w5 ⟨z3, a3, c3, E3, rfl, S3, B5⟩
    go_wp2_with fail
    refine (sections_any a3 z3.length c3 ta _).mono ?_
    rintro e w6 ⟨rfl, B6⟩
    have b6 := Below.new (Below.next (Below.next b4 B5) B6) (.cells #[.slice a3 z3.length c3, .string ta] 31)
    go_wp2_with fail
    refine (cat3_any aB sB cB z HY.out.2 none [] 0 _ (Strs.below HB.out b6) (Strs.nil _ _) lB (by simp)).mono ?_
    rintro e w7 ⟨z4, a4, c4, E4, rfl, S4, B7⟩
    go_wp2_with fail
    refine (sections_any a4 z4.length c4 tb _).mono ?_
    rintro e w8 ⟨rfl, B8⟩
    have b8 := Below.new (Below.next (Below.next b6 B7) B8) (.cells #[.slice a4 z4.length c4, .string tb] 31)
    have x8 := Below.new B8 (.cells #[.slice a4 z4.length c4, .string tb] 31)
    have x7 := Below.next B7 x8
    have x6 := Below.next (Below.new B6 (.cells #[.slice a3 z3.length c3, .string ta] 31)) x7
    have x5 := Below.next B5 x6
    have x4 := Below.next (Below.new B4 (.cells #[.slice a2 z2.length c2, .string tb] 31)) x5
    have x3 := Below.next B3 x4
    have x2 := Below.next (Below.new B2 (.cells #[.slice a1 z1.length c1, .string ta] 31)) x3
    have HK : Four w w2.heap.size w4.heap.size w6.heap.size w8.heap.size a1 z1 c1 a2 z2 c2 a3 z3 c3 a4 z4 c4 ta tb (w8.alloc (.cells #[.slice a4 z4.length c4, .string tb] 31)) :=
      ⟨b8, ⟨(SecAt.made w2 a1 z1.length c1 ta).below x3, (SecAt.made w4 a2 z2.length c2 tb).below x5, (SecAt.made w6 a3 z3.length c3 ta).below x7, SecAt.made w8 a4 z4.length c4 tb⟩, S1.below x2, S2.below x4, S3.below x6, S4.below x8⟩
    clear S1 S2 S3 S4 B1 B2 B3 B4 B5 B6 B7 B8 b2 b4 b6 b8 x2 x3 x4 x5 x6 x7 x8
    have HK2 := (show Hid (Four w w2.heap.size w4.heap.size w6.heap.size w8.heap.size a1 z1 c1 a2 z2 c2 a3 z3 c3 a4 z4 c4 ta tb (w8.alloc (.cells #[.slice a4 z4.length c4, .string tb] 31))) from HK)
    clear HK
    go_wp2_with fail
    generalize w8.alloc (.cells #[.slice a4 z4.length c4, .string tb] 31) = W at *
    generalize w2.heap.size = g1 at *
    generalize w4.heap.size = g2 at *
    generalize w6.heap.size = g3 at *
    generalize w8.heap.size = g4 at *
    have sW := (HK2.out).cells
    go_region_held3 (fun w' => w'.cell? ⟨g1, 0, none⟩ = some (.slice a1 z1.length c1) ∧ w'.cell? ⟨g1, 1, none⟩ = some (.string ta) ∧ w'.cell? ⟨g2, 0, none⟩ = some (.slice a2 z2.length c2) ∧ w'.cell? ⟨g2, 1, none⟩ = some (.string tb) ∧ w'.cell? ⟨g3, 0, none⟩ = some (.slice a3 z3.length c3) ∧ w'.cell? ⟨g3, 1, none⟩ = some (.string ta) ∧ w'.cell? ⟨g4, 0, none⟩ = some (.slice a4 z4.length c4) ∧ w'.cell? ⟨g4, 1, none⟩ = some (.string tb)) (first | exact sW | assumption) (first | (go_at_call 15; refine (cat2_any aA sA cA none [] 0 _ ?_ (Strs.nil _ _) lA (by simp)).mono ?_; (exact Strs.below HA.out HK2.out.1.drew); rintro e w9 ⟨zX, a9, c9, EX, rfl, S9, B9⟩; have f9 := Four.below (Four.drew HK2.out) B9; have s9 := f9.cells) | (go_at_call 11; refine (sections_any a9 zX.length c9 tb _).mono ?_; rintro e w10 ⟨rfl, B10⟩; have f10 := Four.below f9 B10; have s10 := f10.cells) | (go_at_call 14; refine (equal_at a1 z1 c1 ta a9 zX c9 tb _ true ?_ ?_ ?_).mono ?_; (exact eqB_same E1 (hid_nil EX)); (exact f10.2.2.1); (exact S9.below B10); rintro e w11 ⟨rfl, B11⟩; have f11 := Four.below f10 B11; have s11 := f11.cells))
    clear HK2 sW f9 s9 f10 s10 B9 B10 B11 S9 EX
    have HK3 := (show Hid (Four w g1 g2 g3 g4 a1 z1 c1 a2 z2 c2 a3 z3 c3 a4 z4 c4 ta tb w11) from f11)
    clear f11
    go_wp2_with fail
    go_region_held3 (fun w' => w'.cell? ⟨g1, 0, none⟩ = some (.slice a1 z1.length c1) ∧ w'.cell? ⟨g1, 1, none⟩ = some (.string ta) ∧ w'.cell? ⟨g2, 0, none⟩ = some (.slice a2 z2.length c2) ∧ w'.cell? ⟨g2, 1, none⟩ = some (.string tb) ∧ w'.cell? ⟨g3, 0, none⟩ = some (.slice a3 z3.length c3) ∧ w'.cell? ⟨g3, 1, none⟩ = some (.string ta) ∧ w'.cell? ⟨g4, 0, none⟩ = some (.slice a4 z4.length c4) ∧ w'.cell? ⟨g4, 1, none⟩ = some (.string tb)) (first | exact s11 | assumption) (first | (go_at_call 11; refine (sections_any none 0 0 tb _).mono ?_; rintro e w12 ⟨rfl, B12⟩; have f12 := Four.below (Four.drew HK3.out) B12; have s12 := f12.cells) | (go_at_call 14; refine (equal_at a3 z3 c3 ta none [] 0 tb _ false ?_ ?_ ?_).mono ?_; (exact eqB_nil_right E3); (exact f12.2.2.2.2.1); (exact Strs.nil _ _); rintro e w13 ⟨rfl, B13⟩; have f13 := Four.below f12 B13; have s13 := f13.cells))
    clear HK3 s11 f12 s12 B12 B13
    have HK4 := (show Hid (Four w g1 g2 g3 g4 a1 z1 c1 a2 z2 c2 a3 z3 c3 a4 z4 c4 ta tb w13) from f13)
    clear f13
    go_wp2_with fail
    go_region_held3 (fun w' => w'.cell? ⟨g1, 0, none⟩ = some (.slice a1 z1.length c1) ∧ w'.cell? ⟨g1, 1, none⟩ = some (.string ta) ∧ w'.cell? ⟨g2, 0, none⟩ = some (.slice a2 z2.length c2) ∧ w'.cell? ⟨g2, 1, none⟩ = some (.string tb) ∧ w'.cell? ⟨g3, 0, none⟩ = some (.slice a3 z3.length c3) ∧ w'.cell? ⟨g3, 1, none⟩ = some (.string ta) ∧ w'.cell? ⟨g4, 0, none⟩ = some (.slice a4 z4.length c4) ∧ w'.cell? ⟨g4, 1, none⟩ = some (.string tb)) (first | exact s13 | assumption) (first | (go_at_call 11; refine (sections_any none 0 0 ta _).mono ?_; rintro e w14 ⟨rfl, B14⟩; have f14 := Four.below (Four.drew HK4.out) B14; have s14 := f14.cells) | (go_at_call 14; refine (equal_at none [] 0 ta a4 z4 c4 tb _ false ?_ ?_ ?_).mono ?_; (rw [eqB_comm]; exact eqB_nil_right E4); (exact Strs.nil _ _); (exact f14.2.2.2.2.2); rintro e w15 ⟨rfl, B15⟩; have f15 := Four.below f14 B15; have s15 := f15.cells))
    clear HK4 s13 f14 s14 B14 B15
    have HK5 := (show Hid (Four w g1 g2 g3 g4 a1 z1 c1 a2 z2 c2 a3 z3 c3 a4 z4 c4 ta tb w15) from f15)
    clear f15
    obtain ⟨F, hF⟩ : ∃ F, eqB sA sB = F := ⟨_, rfl⟩
    have HF := (show Hid _ from hF)
    have HG := (show Hid _ from eqB_snoc E3 E4)
    clear hF
    go_wp2_with fail
    cases F
    · have HG2 : Hid (eqB z3 z4 = false) := (by have h := HG.out; rw [HF.out] at h; simpa using h : eqB z3 z4 = false)
      refine wp_region_noPanic ?_
      refine wp_region_held_drew (S := (fun w' => w'.cell? ⟨g1, 0, none⟩ = some (.slice a1 z1.length c1) ∧ w'.cell? ⟨g1, 1, none⟩ = some (.string ta) ∧ w'.cell? ⟨g2, 0, none⟩ = some (.slice a2 z2.length c2) ∧ w'.cell? ⟨g2, 1, none⟩ = some (.string tb) ∧ w'.cell? ⟨g3, 0, none⟩ = some (.slice a3 z3.length c3) ∧ w'.cell? ⟨g3, 1, none⟩ = some (.string ta) ∧ w'.cell? ⟨g4, 0, none⟩ = some (.slice a4 z4.length c4) ∧ w'.cell? ⟨g4, 1, none⟩ = some (.string tb))) (by kernel_rfl) (by exact s15) (fun hHeld => ?_)
      refine wpAnyH_take_d (i := 0) (d := some 95) (v := .agg #[.slice a3 z3.length c3, .string ta]) rfl rfl (by kernel_rfl) (by kernel_rfl) (by kernel_rfl) (fun _ _ _ h => h) (Or.inl ⟨by rfl, ?_⟩) (by assumption) ?_
      · intro w hSw
        go_simp
      simp only [Act.put, List.setIfInBounds_toArray, List.set_cons_zero, List.set_cons_succ]
      refine wpAnyH_take_d (i := 1) (d := some 96) (v := .agg #[.slice a4 z4.length c4, .string tb]) rfl rfl (by kernel_rfl) (by kernel_rfl) (by kernel_rfl) (fun _ _ _ h => h) (Or.inl ⟨by rfl, ?_⟩) (by assumption) ?_
      · intro w hSw
        go_simp
      simp only [Act.put, List.setIfInBounds_toArray, List.set_cons_zero, List.set_cons_succ]
      refine wpAnyH_take_d (i := 3) (d := some 98) (v := .agg #[.slice a1 z1.length c1, .string ta]) rfl rfl (by kernel_rfl) (by kernel_rfl) (by kernel_rfl) (fun _ _ _ h => h) (Or.inl ⟨by rfl, ?_⟩) (by assumption) ?_
      · intro w hSw
        go_simp
      simp only [Act.put, List.setIfInBounds_toArray, List.set_cons_zero, List.set_cons_succ]
      refine wpAnyH_take_d (i := 4) (d := some 99) (v := .agg #[.slice a2 z2.length c2, .string tb]) rfl rfl (by kernel_rfl) (by kernel_rfl) (by kernel_rfl) (fun _ _ _ h => h) (Or.inl ⟨by rfl, ?_⟩) (by assumption) ?_
      · intro w hSw
        go_simp
      simp only [Act.put, List.setIfInBounds_toArray, List.set_cons_zero, List.set_cons_succ]
      refine wpAnyH_ready (rs := [2]) (by kernel_rfl) (by simp) ?_
      refine AllReadyH.cons rfl (fun K hK => ?_) AllReadyH.nil
      go_simp
      refine (equal_at a3 z3 c3 ta a4 z4 c4 tb _ false HG2.out (Four.drew HK5.out).2.2.2.2.1 (Four.drew HK5.out).2.2.2.2.2).mono ?_
      rintro e w16 ⟨rfl, B16⟩
      have f16 := Four.below (Four.drew HK5.out) B16
      have s16 := f16.cells
      clear hHeld
      refine hK.out _ _ (by exact s16) (fun hHeld2 => ?_)
      clear hK K
      try simp only [Act.put]
      refine wpAnyH_ready (rs := [5]) (by kernel_rfl) (by simp) ?_
      refine AllReadyH.cons rfl (fun K hK => ?_) AllReadyH.nil
      go_simp
      refine (equal_at a1 z1 c1 ta a2 z2 c2 tb _ false (eqB_as E1 E2 HF.out) f16.2.2.1 f16.2.2.2.1).mono ?_
      rintro e w17 ⟨rfl, B17⟩
      have f17 := Four.below f16 B17
      have s17 := f17.cells
      clear hHeld2
      refine hK.out _ _ (by exact s17) (fun hHeld2 => ?_)
      clear hK K
      try simp only [Act.put]
      refine wpAnyH_take_d (i := 6) (d := some 101) (v := .bool false) rfl rfl (by kernel_rfl) (by kernel_rfl) (by kernel_rfl) (fun _ _ _ h => h) (Or.inl ⟨by rfl, ?_⟩) (by assumption) ?_
      · intro w hSw
        go_simp
      simp only [Act.put, List.setIfInBounds_toArray, List.set_cons_zero, List.set_cons_succ]
      refine wpAnyH_take_d (i := 7) (d := some 102) (v := undef) rfl rfl (by kernel_rfl) (by kernel_rfl) (by kernel_rfl) (fun _ _ _ h => h) (Or.inr ⟨by rfl, rfl⟩) (by assumption) ?_
      simp only [Act.put, List.setIfInBounds_toArray, List.set_cons_zero, List.set_cons_succ]
      refine wpAnyH_take_d (i := 8) (d := some 103) (v := undef) rfl rfl (by kernel_rfl) (by kernel_rfl) (by kernel_rfl) (fun _ _ _ h => h) (Or.inr ⟨by rfl, rfl⟩) (by assumption) ?_
      simp only [Act.put, List.setIfInBounds_toArray, List.set_cons_zero, List.set_cons_succ]
      refine wpAnyH_take_d (i := 9) (d := some 104) (v := undef) rfl rfl (by kernel_rfl) (by kernel_rfl) (by kernel_rfl) (fun _ _ _ h => h) (Or.inr ⟨by rfl, rfl⟩) (by assumption) ?_
      simp only [Act.put, List.setIfInBounds_toArray, List.set_cons_zero, List.set_cons_succ]
      refine wpAnyH_take_d (i := 10) (d := some 105) (v := .bool false) rfl rfl (by kernel_rfl) (by kernel_rfl) (by kernel_rfl) (fun _ _ _ h => h) (Or.inl ⟨by rfl, ?_⟩) (by assumption) ?_
      · intro w hSw
        go_simp
      simp only [Act.put, List.setIfInBounds_toArray, List.set_cons_zero, List.set_cons_succ]
      refine wpAnyH_take_d (i := 11) (d := some 106) (v := .bool true) rfl rfl (by kernel_rfl) (by kernel_rfl) (by kernel_rfl) (fun _ _ _ h => h) (Or.inl ⟨by rfl, ?_⟩) (by assumption) ?_
      · intro w hSw
        go_simp
      simp only [Act.put, List.setIfInBounds_toArray, List.set_cons_zero, List.set_cons_succ]
      refine wpAnyH_take_d (i := 12) (d := some 12) (v := .bool true) rfl rfl (by kernel_rfl) (by kernel_rfl) (by kernel_rfl) (fun _ _ _ h => h) (Or.inl ⟨by rfl, ?_⟩) (by assumption) ?_
      · intro w hSw
        go_simp
      simp only [Act.put, List.setIfInBounds_toArray, List.set_cons_zero, List.set_cons_succ]
      refine wpAnyH_done (by kernel_rfl) ?_ _
      refine NoPanic.normal ?_
      go_wp2
      go_ret
      exact ⟨rfl, f17.1⟩
    · by_cases hyz : y = z
      · have HG2 : Hid (eqB z3 z4 = true) := (by have h := HG.out; rw [HF.out] at h; simpa [hyz] using h : eqB z3 z4 = true)
        have eyz := seq_t hyz
        clear hyz
        go_region_held3 (fun w' => w'.cell? ⟨g1, 0, none⟩ = some (.slice a1 z1.length c1) ∧ w'.cell? ⟨g1, 1, none⟩ = some (.string ta) ∧ w'.cell? ⟨g2, 0, none⟩ = some (.slice a2 z2.length c2) ∧ w'.cell? ⟨g2, 1, none⟩ = some (.string tb) ∧ w'.cell? ⟨g3, 0, none⟩ = some (.slice a3 z3.length c3) ∧ w'.cell? ⟨g3, 1, none⟩ = some (.string ta) ∧ w'.cell? ⟨g4, 0, none⟩ = some (.slice a4 z4.length c4) ∧ w'.cell? ⟨g4, 1, none⟩ = some (.string tb)) (first | exact s15 | assumption) (first | (go_at_call_of 14 (Value.slice a3 z3.length c3); refine (equal_at a3 z3 c3 ta a4 z4 c4 tb _ true HG2.out ?_ ?_).mono ?_; (exact (Four.drew HK5.out).2.2.2.2.1); (exact (Four.drew HK5.out).2.2.2.2.2); rintro e w16 ⟨rfl, B16⟩; have f16 := Four.below (Four.drew HK5.out) B16; have s16 := f16.cells) | (go_at_call_of 14 (Value.slice a1 z1.length c1); refine (equal_at a1 z1 c1 ta a2 z2 c2 tb _ true (eqB_as E1 E2 HF.out) ?_ ?_).mono ?_; (exact f16.2.2.1); (exact f16.2.2.2.1); rintro e w17 ⟨rfl, B17⟩; have f17 := Four.below f16 B17; have s17 := f17.cells))
        go_wp2
        go_ret
        exact ⟨rfl, f17.1⟩
      · have HG2 : Hid (eqB z3 z4 = false) := (by have h := HG.out; rw [HF.out] at h; simpa [hyz] using h : eqB z3 z4 = false)
        have eyz := seq_f hyz
        clear hyz
        go_region_held3 (fun w' => w'.cell? ⟨g1, 0, none⟩ = some (.slice a1 z1.length c1) ∧ w'.cell? ⟨g1, 1, none⟩ = some (.string ta) ∧ w'.cell? ⟨g2, 0, none⟩ = some (.slice a2 z2.length c2) ∧ w'.cell? ⟨g2, 1, none⟩ = some (.string tb) ∧ w'.cell? ⟨g3, 0, none⟩ = some (.slice a3 z3.length c3) ∧ w'.cell? ⟨g3, 1, none⟩ = some (.string ta) ∧ w'.cell? ⟨g4, 0, none⟩ = some (.slice a4 z4.length c4) ∧ w'.cell? ⟨g4, 1, none⟩ = some (.string tb)) (first | exact s15 | assumption) (first | (go_at_call_of 14 (Value.slice a3 z3.length c3); refine (equal_at a3 z3 c3 ta a4 z4 c4 tb _ false HG2.out ?_ ?_).mono ?_; (exact (Four.drew HK5.out).2.2.2.2.1); (exact (Four.drew HK5.out).2.2.2.2.2); rintro e w16 ⟨rfl, B16⟩; have f16 := Four.below (Four.drew HK5.out) B16; have s16 := f16.cells) | (go_at_call_of 14 (Value.slice a1 z1.length c1); refine (equal_at a1 z1 c1 ta a2 z2 c2 tb _ true (eqB_as E1 E2 HF.out) ?_ ?_).mono ?_; (exact f16.2.2.1); (exact f16.2.2.2.1); rintro e w17 ⟨rfl, B17⟩; have f17 := Four.below f16 B17; have s17 := f17.cells))
        go_wp2
        go_ret
        exact ⟨rfl, f17.1⟩

end Go.Proofs.Qxb6617164a
