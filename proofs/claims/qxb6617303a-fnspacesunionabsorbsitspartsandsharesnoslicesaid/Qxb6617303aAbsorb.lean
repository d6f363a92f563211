/-
  Seat b6617303a: the walk of FnSpacesUnionAbsorbsItsPartsAndSharesNoSlice.
-/
import Derived.Test.Qxb6617303aAbs
namespace Go.Proofs.Qxb6617303a
open Go.RowKit

theorem Wr.set {base g n : Nat} {w : World} {a : Option Addr} (h : Wr base g w a n) (p : Addr) (v : Value) : Wr base g (w.setCell p v) a n := by
  intro j hj
  obtain ⟨b, off, ha, h1, h2, ⟨u, hu⟩, hf⟩ := h j hj
  refine ⟨b, off, ha, h1, h2, ?_, (World.frozen?_setCell _ _ _ _).trans hf⟩
  by_cases e : (⟨b, off + j, none⟩ : Addr) = p
  · subst e; exact ⟨v, World.cell?_setCell_same _ _ _ hu⟩
  · exact ⟨u, (World.cell?_setCell_other _ _ _ _ (by first | exact e | exact fun h => e h.symm)).trans hu⟩

theorem SpAt.set {w : World} {g : Nat} {al : Bool} {a : Option Addr} {n c : Nat} (h : SpAt w g al a n c) (p : Addr) (v : Value) (hne : p.block ≠ g) : SpAt (w.setCell p v) g al a n c := by
  unfold SpAt; rw [Below.heap_setCell _ _ _ _ (Ne.symm hne)]; exact h

/-- What stands while the law looks. -/
structure Env (W w : World) (gs gt gr : Nat) (p q o : Bool) (aS aT a aA aB : Option Addr) (cs ct c : Nat) (sA sB z : List ByteArray) (V : World) : Prop where
  bel : Below w.heap.size w V
  kept : Below W.heap.size W V
  s : SpAt V gs p aS sA.length cs
  t : SpAt V gt q aT sB.length ct
  r : SpAt V gr o a z.length c
  rN : Strs V a z
  sN : Strs V aS sA
  tN : Strs V aT sB
  aN : Strs V aA sA
  bN : Strs V aB sB
  wr : Wr W.heap.size gr V a z.length

theorem Env.below {W w : World} {gs gt gr : Nat} {p q o : Bool} {aS aT a aA aB : Option Addr} {cs ct c : Nat} {sA sB z : List ByteArray} {V V' : World} (h : Env W w gs gt gr p q o aS aT a aA aB cs ct c sA sB z V) (hb : Below V.heap.size V V') :
    Env W w gs gt gr p q o aS aT a aA aB cs ct c sA sB z V' :=
  ⟨h.bel.trans (hb.mono h.bel.size), h.kept.trans (hb.mono h.kept.size), h.s.below hb, h.t.below hb, h.r.below hb, h.rN.below hb, h.sN.below hb, h.tN.below hb, h.aN.below hb, h.bN.below hb, h.wr.below hb⟩

/-- The three unions that the law compares, and the clone that it wants. -/
structure Three (o : Bool) (z : List ByteArray) (aw : Option Addr) (g5 : Nat) (a5 : Option Addr) (c5 g6 : Nat) (a6 : Option Addr) (c6 g7 : Nat) (a7 : Option Addr) (c7 : Nat) (V : World) : Prop where
  K : Strs V aw z
  R5 : SpAt V g5 o a5 z.length c5
  N5 : Strs V a5 z
  R6 : SpAt V g6 o a6 z.length c6
  N6 : Strs V a6 z
  R7 : SpAt V g7 o a7 z.length c7
  N7 : Strs V a7 z
theorem Three.below {o : Bool} {z : List ByteArray} {aw : Option Addr} {g5 : Nat} {a5 : Option Addr} {c5 g6 : Nat} {a6 : Option Addr} {c6 g7 : Nat} {a7 : Option Addr} {c7 : Nat} {V V' : World} (h : Three o z aw g5 a5 c5 g6 a6 c6 g7 a7 c7 V) (hb : Below V.heap.size V V') :
    Three o z aw g5 a5 c5 g6 a6 c6 g7 a7 c7 V' := ⟨h.K.below hb, h.R5.below hb, h.N5.below hb, h.R6.below hb, h.N6.below hb, h.R7.below hb, h.N7.below hb⟩

theorem grew (w : World) (o : Obj) : Below w.heap.size w (w.alloc o) := (Below.refl _ _).alloc (Nat.le_refl _) _

set_option maxRecDepth 100000 in
set_option maxHeartbeats 4000000 in
theorem absorb_walk (p : Bool) (aA : Option Addr) (sA : List ByteArray) (cA : Nat) (q : Bool) (aB : Option Addr) (sB : List ByteArray) (cB : Nat) (w : World) (hA : Strs w aA sA) (hB : Strs w aB sB) :
    Calls Try.prog 3 #[.bool p, .slice aA sA.length cA, .bool q, .slice aB sB.length cB] w fun e w' => Yes w e w' := by
  obtain ⟨o, ho⟩ : ∃ o, (p || q) = o := ⟨_, rfl⟩
  have HO := (show Hid _ from (⟨ho, by rw [← ho]; cases p <;> cases q <;> rfl, by rw [← ho]; cases p <;> cases q <;> rfl, by cases o <;> rfl⟩ : (p || q) = o ∧ (o || p) = o ∧ (o || q) = o ∧ (o || o) = o))
  have HA := (show Hid _ from hA)
  have HB := (show Hid _ from hB)
  have HW := (show Hid _ from ho)
  clear hA hB ho
  go_enter Try.func3, Try.ntmps3
  go_wp2_with fail
  refine (zzBytes5_any p aA sA cA q aB sB cB w HA.out HB.out).mono ?_
  rintro e w' ⟨⟨bb, rfl, hbb⟩, hw⟩
  subst w'
  clear hbb
  cases bb with
  | false =>
    go_wp2
    go_ret
    exact ⟨rfl, Below.refl _ _⟩
  | true =>
    go_wp2_with fail
    refine (tooBig_any aA sA cA aB sB cB w HA.out HB.out).mono ?_
    rintro e w' ⟨⟨bb, rfl, hbb⟩, hw⟩
    subst w'
    cases bb with
    | true =>
      go_wp2
      go_ret
      exact ⟨rfl, Below.refl _ _⟩
    | false =>
      obtain ⟨lA, lB⟩ := hbb rfl
      clear hbb
      go_wp2_with fail
      refine (cloneQ_any aA sA cA w HA.out (by omega)).mono ?_
      rintro e w1 ⟨aS, cs, rfl, ns, S1, B1⟩
      have HS := (show Hid _ from And.intro ns (And.intro S1 B1))
      clear ns S1 B1
      go_wp2_with fail
      refine (cloneQ_any aB sB cB w1 (Strs.below HB.out HS.out.2.2) (by omega)).mono ?_
      rintro e w2 ⟨aT, ct, rfl, nt, T2, B2⟩
      have HT := (show Hid _ from And.intro nt (And.intro T2 B2))
      clear nt T2 B2
      go_wp2_with fail
      obtain ⟨s0, t0, b0⟩ := four_s w2 p q aS sA.length cs aT sB.length ct
      generalize (w2.alloc (.cells #[.bool p, .slice aS sA.length cs] 27)).alloc (.cells #[.bool q, .slice aT sB.length ct] 27) = W at *
      have S2 := (Strs.below HS.out.2.1 HT.out.2.2).below b0
      have T2 := (HT.out.2.1).below b0
      have bw := Below.next (Below.next HS.out.2.2 HT.out.2.2) b0
      refine (union_any p q o HO.out.1 aS sA cs aT sB ct W S2 T2 HS.out.1 HT.out.1 (by omega) (by omega)).mono ?_
      rintro e w3 ⟨z, a, c, Z, rfl, O3, B3⟩
      have bx := grew w3 (.cells #[.bool o, .slice a z.length c] 27)
      have hlz : z.length ≤ 8192 := by rw [Z.out]; have := uni_length o sA sB; omega
      have E0 : Env W w w2.heap.size (w2.heap.size + 1) w3.heap.size p q o aS aT a aA aB cs ct c sA sB z (w3.alloc (.cells #[.bool o, .slice a z.length c] 27)) :=
        ⟨Below.next (Below.next bw B3) bx, B3.trans (bx.mono B3.size), (s0.below B3).below bx, (t0.below B3).below bx, SpAt.made _ _ _ _ _, O3.1.below bx, (S2.below B3).below bx, (T2.below B3).below bx, Strs.below HA.out (Below.next (Below.next bw B3) bx), Strs.below HB.out (Below.next (Below.next bw B3) bx), O3.wr.below bx⟩
      have HE := (show Hid _ from And.intro E0 (And.intro O3.2.1 (And.intro bw (And.intro S2 T2))))
      clear s0 t0 b0 S2 T2 bw O3 B3 bx E0
      go_wp2_with fail
      generalize w3.alloc (.cells #[.bool o, .slice a z.length c] 27) = V3 at *
      refine (cloneQ_any a z c V3 HE.out.1.rN (by omega)).mono ?_
      rintro e w4 ⟨aw, cw, rfl, -, K4, B4⟩
      have E4 := HE.out.1.below B4
      have r0 := E4.r.c0
      have r1 := E4.r.c1
      have s0 := E4.s.c0
      have s1 := E4.s.c1
      have HF := (show Hid _ from And.intro E4 K4)
      clear E4 K4 B4
      go_wp2_with fail
      clear r0 r1 s0 s1
      refine (union_any o p o HO.out.2.1 a z c aS sA cs w4 HF.out.1.rN HF.out.1.sN HE.out.2.1 HS.out.1 (by omega) (by omega)).mono ?_
      rintro e w5 ⟨z5, a5, c5, Z5, rfl, O5, B5⟩
      obtain rfl : z = z5 := by rw [Z5.out, Z.out]; exact (uni_absorb o sA sB sA (fun s h => List.mem_append.2 (Or.inl h))).symm
      have E5 := HF.out.1.below B5
      have K5 := HF.out.2.below B5
      have x5 := grew w5 (.cells #[.bool o, .slice a5 z.length c5] 27)
      have r0 := E5.r.c0
      have r1 := E5.r.c1
      have rl := E5.r.lt
      have t0 := E5.t.c0
      have t1 := E5.t.c1
      have tl := E5.t.lt
      have HG := (show Hid _ from And.intro (E5.below x5) (And.intro (K5.below x5) (And.intro (SpAt.made w5 o a5 z.length c5) (O5.1.below x5))))
      clear E5 K5 x5 B5 O5 Z5 HF
      go_wp2_with fail
      clear r0 r1 rl t0 t1 tl
      generalize w5.alloc (.cells #[.bool o, .slice a5 z.length c5] 27) = V5 at *
      refine (union_any o q o HO.out.2.2.1 a z c aT sB ct V5 HG.out.1.rN HG.out.1.tN HE.out.2.1 HT.out.1 (by omega) (by omega)).mono ?_
      rintro e w6 ⟨z6, a6, c6, Z6, rfl, O6, B6⟩
      obtain rfl : z = z6 := by rw [Z6.out, Z.out]; exact (uni_absorb o sA sB sB (fun s h => List.mem_append.2 (Or.inr h))).symm
      have E6 := HG.out.1.below B6
      have K6 := HG.out.2.1.below B6
      have R6 := HG.out.2.2.1.below B6
      have N6 := HG.out.2.2.2.below B6
      have x6 := grew w6 (.cells #[.bool o, .slice a6 z.length c6] 27)
      have r0 := E6.r.c0
      have r1 := E6.r.c1
      have rl := E6.r.lt
      have HI := (show Hid _ from And.intro (E6.below x6) (And.intro (K6.below x6) (And.intro (And.intro (R6.below x6) (N6.below x6)) (And.intro (SpAt.made w6 o a6 z.length c6) (O6.1.below x6)))))
      clear E6 K6 x6 B6 O6 Z6 R6 N6 HG
      go_wp2_with fail
      clear r0 r1 rl
      generalize w6.alloc (.cells #[.bool o, .slice a6 z.length c6] 27) = V6 at *
      refine (union_any o o o HO.out.2.2.2 a z c a z c V6 HI.out.1.rN HI.out.1.rN HE.out.2.1 HE.out.2.1 (by omega) (by omega)).mono ?_
      rintro e w7 ⟨z7, a7, c7, Z7, rfl, O7, B7⟩
      obtain rfl : z = z7 := by rw [Z7.out, Z.out]; exact (uni_self o sA sB).symm
      have x7 := grew w7 (.cells #[.bool o, .slice a7 z.length c7] 27)
      have E7 := HI.out.1.below B7
      have T7 : Three o z aw w5.heap.size a5 c5 w6.heap.size a6 c6 w7.heap.size a7 c7 (w7.alloc (.cells #[.bool o, .slice a7 z.length c7] 27)) :=
        ⟨(HI.out.2.1.below B7).below x7, (HI.out.2.2.1.1.below B7).below x7, (HI.out.2.2.1.2.below B7).below x7, (HI.out.2.2.2.1.below B7).below x7, (HI.out.2.2.2.2.below B7).below x7, SpAt.made w7 o a7 z.length c7, O7.1.below x7⟩
      have r0 := E7.r.c0
      have r1 := E7.r.c1
      have rl := E7.r.lt
      have s0 := (HI.out.2.2.1.1.below B7).c0
      have s1 := (HI.out.2.2.1.1.below B7).c1
      have sl := (HI.out.2.2.1.1.below B7).lt
      have HJ := (show Hid _ from And.intro (E7.below x7) T7)
      clear E7 T7 x7 B7 O7 Z7 HI
      go_wp2_with fail
      clear r0 r1 rl s0 s1 sl
      generalize w7.alloc (.cells #[.bool o, .slice a7 z.length c7] 27) = V7 at *
      refine (sameNames_any a5 aw z c5 cw V7 HJ.out.2.N5 HJ.out.2.K).mono ?_
      rintro e w8 ⟨rfl, B8⟩
      have E8 := HJ.out.1.below B8
      have T8 := HJ.out.2.below B8
      have r0 := E8.r.c0
      have s0 := T8.R6.c0
      have s1 := T8.R6.c1
      have HK := (show Hid _ from And.intro E8 T8)
      clear HJ E8 T8 B8
      go_wp2_with fail
      clear r0 s0 s1
      refine (sameNames_any a6 aw z c6 cw w8 HK.out.2.N6 HK.out.2.K).mono ?_
      rintro e w9 ⟨rfl, B9⟩
      have E9 := HK.out.1.below B9
      have T9 := HK.out.2.below B9
      have r0 := E9.r.c0
      have s0 := T9.R7.c0
      have s1 := T9.R7.c1
      have HL := (show Hid _ from And.intro E9 T9)
      clear HK E9 T9 B9
      go_wp2_with fail
      clear r0 s0 s1
      refine (sameNames_any a7 aw z c7 cw w9 HL.out.2.N7 HL.out.2.K).mono ?_
      rintro e w10 ⟨rfl, B10⟩
      have E10 := HL.out.1.below B10
      have r0 := E10.r.c0
      have r1 := E10.r.c1
      have HM := (show Hid _ from E10)
      clear HL E10 B10
      cases p <;> cases q
      case false.false =>
        obtain rfl : o = false := HO.out.1.symm
        have hd : (firsts (sA ++ sB) (sA.length + sB.length)).length = z.length := (firsts_union sA sB).trans (by rw [Z.out]; rfl)
        have CD : Hid (∀ V, Strs V aA sA → Strs V aB sB → Calls Try.prog 10 #[.slice aA sA.length cA, .slice aB sB.length cB] V fun e w' => RetI z.length V e w') := by
          rw [← hd]; exact fun V h1 h2 => distinct_any aA sA cA aB sB cB V h1 h2 lA lB _ rfl
        clear hd
        go_wp2_with fail
        go_quiet ((go_at_call 10; exact Calls.quiet_of_same (CD.out _ (Strs.below HM.out.aN (below_drewN (Below.refl _ _) _)) (Strs.below HM.out.bN (below_drewN (Below.refl _ _) _)))))
        go_wp2_with fail
        go_loopw [18] (fun i wr => ∃ k : Nat, k ≤ z.length ∧ i = .int .i64 k ∧ Below W.heap.size W wr ∧ SpAt wr w3.heap.size false a z.length c ∧ Wr W.heap.size w3.heap.size wr a z.length) (fun i _ => z.length - (intOf i).toNat)
        case atStart => exact ⟨0, Nat.zero_le _, rfl, (Env.below HM.out (below_drewN (Below.refl _ _) _)).kept, (Env.below HM.out (below_drewN (Below.refl _ _) _)).r, (Env.below HM.out (below_drewN (Below.refl _ _) _)).wr⟩
        case round =>
          clear r0 r1
          obtain ⟨k, hk, rfl, bel, sp, wrt⟩ := hrel
          have r1 := sp.c1
          by_cases hlt : k < z.length
          · obtain ⟨b, off, ha, h1, h2, ⟨u, hu⟩, hf⟩ := wrt k hlt
            subst ha
            have hki : (k : Int) < (z.length : Int) := by omega
            have HQ := (show Hid _ from And.intro bel (And.intro sp (And.intro wrt (And.intro h1 h2))))
            clear bel sp wrt h1 h2
            go_wp2
            go_roundw
            case rel => exact ⟨k + 1, by omega, by go_num, HQ.out.1.setCell HQ.out.2.2.2.1 _, SpAt.set HQ.out.2.1 _ _ HQ.out.2.2.2.2, Wr.set HQ.out.2.2.1 _ _⟩
            case measure => simp [intOf]; omega
          · have HQ := (show Hid _ from bel)
            clear bel sp wrt
            go_wp2_with fail
            refine (sameNames_any aS aA sA cs cA wr (Strs.below HE.out.2.2.2.1 HQ.out) (Strs.below HA.out (Below.next HE.out.2.2.1 HQ.out))).mono ?_
            rintro e wa ⟨rfl, Ba⟩
            have HR := (show Hid _ from Ba)
            clear Ba
            go_wp2_with fail
            refine (sameNames_any aT aB sB ct cB wa (Strs.below (Strs.below HE.out.2.2.2.2 HQ.out) HR.out) (Strs.below HB.out (Below.next (Below.next HE.out.2.2.1 HQ.out) HR.out))).mono ?_
            rintro e wb ⟨rfl, Bb⟩
            have HU := (show Hid _ from Bb)
            clear Bb
            go_wp2
            go_ret
            exact ⟨rfl, Below.next (Below.next (Below.next HE.out.2.2.1 HQ.out) HR.out) HU.out⟩
      all_goals
        obtain rfl : o = true := HO.out.1.symm
        go_wp2_with fail
        go_loopw [18] (fun i wr => ∃ k : Nat, k ≤ z.length ∧ i = .int .i64 k ∧ Below W.heap.size W wr ∧ SpAt wr w3.heap.size true a z.length c ∧ Wr W.heap.size w3.heap.size wr a z.length) (fun i _ => z.length - (intOf i).toNat)
        case atStart => exact ⟨0, Nat.zero_le _, rfl, HM.out.kept, HM.out.r, HM.out.wr⟩
        case round =>
          clear r0 r1
          obtain ⟨k, hk, rfl, bel, sp, wrt⟩ := hrel
          have r1 := sp.c1
          by_cases hlt : k < z.length
          · obtain ⟨b, off, ha, h1, h2, ⟨u, hu⟩, hf⟩ := wrt k hlt
            subst ha
            have hki : (k : Int) < (z.length : Int) := by omega
            have HQ := (show Hid _ from And.intro bel (And.intro sp (And.intro wrt (And.intro h1 h2))))
            clear bel sp wrt h1 h2
            go_wp2
            go_roundw
            case rel => exact ⟨k + 1, by omega, by go_num, HQ.out.1.setCell HQ.out.2.2.2.1 _, SpAt.set HQ.out.2.1 _ _ HQ.out.2.2.2.2, Wr.set HQ.out.2.2.1 _ _⟩
            case measure => simp [intOf]; omega
          · have HQ := (show Hid _ from bel)
            clear bel sp wrt
            go_wp2_with fail
            refine (sameNames_any aS aA sA cs cA wr (Strs.below HE.out.2.2.2.1 HQ.out) (Strs.below HA.out (Below.next HE.out.2.2.1 HQ.out))).mono ?_
            rintro e wa ⟨rfl, Ba⟩
            have HR := (show Hid _ from Ba)
            clear Ba
            go_wp2_with fail
            refine (sameNames_any aT aB sB ct cB wa (Strs.below (Strs.below HE.out.2.2.2.2 HQ.out) HR.out) (Strs.below HB.out (Below.next (Below.next HE.out.2.2.1 HQ.out) HR.out))).mono ?_
            rintro e wb ⟨rfl, Bb⟩
            have HU := (show Hid _ from Bb)
            clear Bb
            go_wp2
            go_ret
            exact ⟨rfl, Below.next (Below.next (Below.next HE.out.2.2.1 HQ.out) HR.out) HU.out⟩

end Go.Proofs.Qxb6617303a
