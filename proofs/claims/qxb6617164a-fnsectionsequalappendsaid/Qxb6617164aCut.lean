/-
  Seat b6617164a: the walk of FnSectionsEqualCut.
-/
import Derived.Test.Qxb6617164aEqual
import Derived.Test.Qxb6617164aBytes
import Derived.Deep.RegionWith
namespace Go.Proofs.Qxb6617164a
open Go.RowKit

def Yes (w : World) (e : Ending) (w' : World) : Prop := e = .returned (.bool true) ∧ Below w.heap.size w w'

/-- A local variable of type Sections. -/
def SecAt (w : World) (g : Nat) (a : Option Addr) (n c : Nat) (t : ByteArray) : Prop := w.heap[g]? = some (.cells #[.slice a n c, .string t] 31 (0, 0))
theorem SecAt.c0 {w : World} {g : Nat} {a : Option Addr} {n c : Nat} {t : ByteArray} (h : SecAt w g a n c t) : w.cell? ⟨g, 0, none⟩ = some (.slice a n c) := by unfold SecAt at h; simp [World.cell?, h]
theorem SecAt.c1 {w : World} {g : Nat} {a : Option Addr} {n c : Nat} {t : ByteArray} (h : SecAt w g a n c t) : w.cell? ⟨g, 1, none⟩ = some (.string t) := by unfold SecAt at h; simp [World.cell?, h]
theorem SecAt.lt {w : World} {g : Nat} {a : Option Addr} {n c : Nat} {t : ByteArray} (h : SecAt w g a n c t) : g < w.heap.size := lt_of_block h
theorem SecAt.below {w w' : World} {g : Nat} {a : Option Addr} {n c : Nat} {t : ByteArray} (h : SecAt w g a n c t) (hb : Below w.heap.size w w') : SecAt w' g a n c t := by unfold SecAt; rw [hb.block g h.lt]; exact h
theorem SecAt.made (w : World) (a : Option Addr) (n c : Nat) (t : ByteArray) : SecAt (w.alloc (.cells #[.slice a n c, .string t] 31)) w.heap.size a n c t := heap_alloc_new w _

theorem Below.next {w w1 w2 : World} (h : Below w.heap.size w w1) (k : Below w1.heap.size w1 w2) : Below w.heap.size w w2 := h.trans (k.mono h.size)
theorem Below.new {w w1 : World} (h : Below w.heap.size w w1) (o : Obj) : Below w.heap.size w (w1.alloc o) := h.alloc h.size o

theorem eqB_comm (xs ys : List ByteArray) : eqB xs ys = eqB ys xs := by unfold eqB; rw [Bool.eq_iff_iff]; simp [eq_comm]
theorem eqB_cut {a b c d x y : List ByteArray} (hx : x = a ++ b) (hy : y = c ++ d) (hl : a.length = c.length) : eqB x y = (eqB a c && eqB b d) := by
  subst hx; subst hy
  unfold eqB
  rw [Bool.eq_iff_iff]
  simp only [decide_eq_true_eq, Bool.and_eq_true]
  constructor
  · intro h; exact List.append_inj h hl
  · rintro ⟨h1, h2⟩; rw [h1, h2]

theorem eqB_same {x y z : List ByteArray} (hx : Hid (x = z)) (hy : Hid (y = z)) : eqB x y = true := by
  have h1 := hx.out
  have h2 := hy.out
  unfold eqB; simp [h1, h2]

theorem eqB_as {x y x' y' : List ByteArray} {F : Bool} (hx : Hid (x = x')) (hy : Hid (y = y')) (h : eqB x' y' = F) : eqB x y = F := by
  rw [← h, hx.out, hy.out]

/-- Equal with its answer as a letter. -/
theorem equal_at (a : Option Addr) (xs : List ByteArray) (ca : Nat) (ta : ByteArray) (b : Option Addr) (ys : List ByteArray) (cb : Nat) (tb : ByteArray) (w : World) (E : Bool) (hE : eqB xs ys = E) (hx : Strs w a xs) (hy : Strs w b ys) :
    Calls Try.prog 14 #[.agg #[.slice a xs.length ca, .string ta], .agg #[.slice b ys.length cb, .string tb]] w fun e w' => RetV (.bool E) w e w' := by
  subst hE; exact equal_any a xs ca ta b ys cb tb w hx hy

set_option maxRecDepth 100000 in
set_option maxHeartbeats 4000000 in
theorem cut_main (aA : Option Addr) (sA : List ByteArray) (cA : Nat) (aB : Option Addr) (sB : List ByteArray) (cB : Nat) (aC : Option Addr) (sC : List ByteArray) (cC : Nat) (aD : Option Addr) (sD : List ByteArray) (cD : Nat) (ta tb : ByteArray) (w : World)
    (hA : Strs w aA sA) (hB : Strs w aB sB) (hC : Strs w aC sC) (hD : Strs w aD sD) (hta : ta.size ≤ maxLen) (htb : tb.size ≤ maxLen) (hta2 : ta.size ≤ 1048576) (htb2 : tb.size ≤ 1048576) (hlen : sA.length = sC.length) :
    Calls Try.prog 5 #[.slice aA sA.length cA, .slice aB sB.length cB, .slice aC sC.length cC, .slice aD sD.length cD, .string ta, .string tb] w fun e w' => Yes w e w' := by
  have HA := (show Hid _ from hA)
  have HB := (show Hid _ from hB)
  have HC := (show Hid _ from hC)
  have HD := (show Hid _ from hD)
  have hne : ((sA.length : Int) != (sC.length : Int)) = false := by simp [hlen]
  have HL := (show Hid _ from hlen)
  clear hA hB hC hD hlen
  go_enter Try.func5, Try.ntmps5
  go_wp2_with fail
  refine (zzBytesCut_any aA sA cA aB sB cB aC sC cC aD sD cD ta tb w HA.out HB.out HC.out HD.out hta htb).mono ?_
  rintro e w' ⟨⟨bb, rfl, hbb⟩, hw⟩
  subst w'
  unfold maxLen at hta htb
  cases bb with
  | false =>
    go_wp2
    go_ret
    exact ⟨rfl, Below.refl _ _⟩
  | true =>
    obtain ⟨lA, lB, lC, lD⟩ := hbb rfl
    clear hbb
    go_wp2_with (first | (go_at_call_of 10 (Value.slice aA sA.length cA); refine (strBytes_any _ aA sA cA _ HA.out (by omega) (by omega)).mono ?_; rintro e w' ⟨⟨r1, rfl, h10, h11⟩, hw⟩; subst w') | (go_at_call_of 10 (Value.slice aB sB.length cB); refine (strBytes_any _ aB sB cB _ HB.out (by omega) (by omega)).mono ?_; rintro e w' ⟨⟨r2, rfl, h20, h21⟩, hw⟩; subst w') | (go_at_call_of 10 (Value.slice aC sC.length cC); refine (strBytes_any _ aC sC cC _ HC.out (by omega) (by omega)).mono ?_; rintro e w' ⟨⟨r3, rfl, h30, h31⟩, hw⟩; subst w') | (go_at_call_of 10 (Value.slice aD sD.length cD); refine (strBytes_any _ aD sD cD _ HD.out (by omega) (by omega)).mono ?_; rintro e w' ⟨⟨r4, rfl, h40, h41⟩, hw⟩; subst w'))
    · go_ret
      exact ⟨rfl, Below.refl _ _⟩
    clear h10 h11 h20 h21 h30 h31 h40 h41
    refine (cat2_any aA sA cA aB sB cB w HA.out HB.out lA lB).mono ?_
    rintro e w1 ⟨zA, a1, c1, EA, rfl, S1, B1⟩
    go_wp2_with fail
    refine (sections_any a1 zA.length c1 ta w1).mono ?_
    rintro e w2 ⟨rfl, B2⟩
    have b2 := Below.next B1 B2
    have k2 := SecAt.made w2 a1 zA.length c1 ta
    go_wp2_with fail
    refine (cat2_any aC sC cC aD sD cD _ (Strs.below HC.out (Below.new b2 _)) (Strs.below HD.out (Below.new b2 _)) lC lD).mono ?_
    rintro e w3 ⟨zB, a3, c3, EB, rfl, S3, B3⟩
    go_wp2_with fail
    refine (sections_any a3 zB.length c3 tb w3).mono ?_
    rintro e w4 ⟨rfl, B4⟩
    have b4 := Below.next (Below.next (Below.new b2 _) B3) B4
    have k4 := k2.below (Below.next B3 B4)
    have q0 := k4.c0
    have q1 := k4.c1
    have ql := k4.lt
    have k15 := SecAt.made w4 a3 zB.length c3 tb
    have k14 := k4.below ((Below.refl w4.heap.size w4).alloc (Nat.le_refl _) (.cells #[.slice a3 zB.length c3, .string tb] 31))
    have S1' := S1.below (Below.next (Below.new B2 _) (Below.new (Below.next B3 B4) (.cells #[.slice a3 zB.length c3, .string tb] 31)))
    have S3' := S3.below (Below.new B4 (.cells #[.slice a3 zB.length c3, .string tb] 31))
    have HK := (show Hid _ from And.intro k14 (And.intro k15 (And.intro S1' (And.intro S3' (Below.new b4 (.cells #[.slice a3 zB.length c3, .string tb] 31))))))
    clear S1 B1 B2 b2 k2 S3 B3 B4 b4 k4 k15 k14 S1' S3'
    obtain ⟨F, hF⟩ : ∃ F, eqB sA sC = F := ⟨_, rfl⟩
    obtain ⟨K, hK⟩ : ∃ K, eqB sB sD = K := ⟨_, rfl⟩
    have hE1 : eqB zA zB = (F && K) := by rw [← hF, ← hK]; exact eqB_cut EA.out EB.out HL.out
    have hE2 : eqB zB zA = (F && K) := by rw [eqB_comm]; exact hE1
    have HE := (show Hid _ from And.intro hF (And.intro hK (And.intro hE1 hE2)))
    clear hF hK hE1 hE2
    generalize hE : (F && K) = E at HE
    have HEE := (show Hid _ from hE)
    clear hE
    go_wp2_with fail
    refine (equal_at a1 zA c1 ta a3 zB c3 tb _ E HE.out.2.2.1 HK.out.2.2.1 HK.out.2.2.2.1).mono ?_
    rintro e w5 ⟨rfl, B5⟩
    have k14 := HK.out.1.below B5
    have k15 := HK.out.2.1.below B5
    have S1 := HK.out.2.2.1.below B5
    have S3 := HK.out.2.2.2.1.below B5
    have b5 := Below.next HK.out.2.2.2.2 B5
    have q0' := k14.c0
    have q1' := k14.c1
    have p0 := k15.c0
    have p1 := k15.c1
    clear q0 q1 ql HK B5
    have HK := (show Hid _ from And.intro k14 (And.intro S1 (And.intro S3 b5)))
    clear k14 k15 S1 S3 b5
    go_wp2_with fail
    refine (equal_at a3 zB c3 tb a1 zA c1 ta _ E HE.out.2.2.2 HK.out.2.2.1 HK.out.2.1).mono ?_
    rintro e w6 ⟨rfl, B6⟩
    have k14 := HK.out.1.below B6
    have S1 := HK.out.2.1.below B6
    have b6 := Below.next HK.out.2.2.2 B6
    have q0 := k14.c0
    have q1 := k14.c1
    clear q0' q1' p0 p1 HK B6
    have HK := (show Hid _ from And.intro k14 (And.intro S1 b6))
    clear k14 S1 b6
    have hee : (E != E) = false := by simp
    go_wp2_with fail
    go_region_with (first | (go_at_call 15; refine (cat2_any aA sA cA aB sB cB _ ?_ ?_ lA lB).mono ?_; (exact Strs.below HA.out (Below.drew HK.out.2.2)); (exact Strs.below HB.out (Below.drew HK.out.2.2)); rintro e w7 ⟨zX, a7, c7, EX, rfl, S7, B7⟩; have k7 := SecAt.below (w := w6.drew) HK.out.1 B7; have q70 := k7.c0; have q71 := k7.c1) | (go_at_call 11; refine (sections_any a7 zX.length c7 tb _).mono ?_; rintro e w8 ⟨rfl, B8⟩; have k8 := SecAt.below k7 B8; have q80 := k8.c0; have q81 := k8.c1) | (go_at_call 14; refine (equal_at a1 zA c1 ta a7 zX c7 tb _ true ?_ ?_ ?_).mono ?_; (exact eqB_same EA EX); (exact (Strs.below (w := w6.drew) HK.out.2.1 B7).below B8); (exact S7.below B8); rintro e w9 ⟨rfl, B9⟩))
    all_goals
      have b9 := Below.next (Below.next (Below.next (Below.drew HK.out.2.2) B7) B8) B9
      clear HK B7 B8 B9 k7 k8 S7 EX q70 q71 q80 q81 q0 q1
      go_wp2_with fail
      refine (copy_any aA sA cA _ (Strs.below HA.out b9) lA).mono ?_
      rintro e w10 ⟨z10, a10, c10, E10, rfl, S10, B10⟩
      go_wp2_with fail
      refine (sections_any a10 z10.length c10 ta _).mono ?_
      rintro e w11 ⟨rfl, B11⟩
      have b11 := Below.next (Below.next b9 B10) B11
      go_wp2_with fail
      refine (copy_any aC sC cC _ (Strs.below HC.out b11) lC).mono ?_
      rintro e w12 ⟨z12, a12, c12, E12, rfl, S12, B12⟩
      go_wp2_with fail
      refine (sections_any a12 z12.length c12 tb _).mono ?_
      rintro e w13 ⟨rfl, B13⟩
      have b13 := Below.next (Below.next b11 B12) B13
      go_wp2_with fail
      refine (equal_at a10 z10 c10 ta a12 z12 c12 tb _ F (eqB_as E10 E12 HE.out.1) (S10.below (Below.next (Below.next B11 B12) B13)) (S12.below B13)).mono ?_
      rintro e w14 ⟨rfl, B14⟩
      have b14 := Below.next b13 B14
      clear b9 B10 B11 b11 B12 B13 b13 B14 S10 S12 E10 E12
      go_wp2_with fail
      refine (copy_any aB sB cB _ (Strs.below HB.out b14) lB).mono ?_
      rintro e w10 ⟨z10, a10, c10, E10, rfl, S10, B10⟩
      go_wp2_with fail
      refine (sections_any a10 z10.length c10 ta _).mono ?_
      rintro e w11 ⟨rfl, B11⟩
      have b11 := Below.next (Below.next b14 B10) B11
      go_wp2_with fail
      refine (copy_any aD sD cD _ (Strs.below HD.out b11) lD).mono ?_
      rintro e w12 ⟨z12, a12, c12, E12, rfl, S12, B12⟩
      go_wp2_with fail
      refine (sections_any a12 z12.length c12 tb _).mono ?_
      rintro e w13 ⟨rfl, B13⟩
      have b13 := Below.next (Below.next b11 B12) B13
      go_wp2_with fail
      refine (equal_at a10 z10 c10 ta a12 z12 c12 tb _ K (eqB_as E10 E12 HE.out.2.1) (S10.below (Below.next (Below.next B11 B12) B13)) (S12.below B13)).mono ?_
      rintro e w14 ⟨rfl, B14⟩
      have b15 := Below.next b13 B14
      clear b14 B10 B11 b11 B12 B13 b13 B14 S10 S12 E10 E12
      have hE := HEE.out
      subst hE
      clear HE HEE
      cases F <;> cases K
      all_goals
        go_wp2
        go_ret
        exact ⟨rfl, b15⟩

end Go.Proofs.Qxb6617164a
