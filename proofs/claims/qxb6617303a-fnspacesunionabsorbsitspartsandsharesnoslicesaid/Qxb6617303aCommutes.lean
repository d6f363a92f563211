/-
  Seat b6617303a: the walk of FnSpacesUnionCommutesAndIsSetUnion.
-/
import Derived.Test.Qxb6617303aUnion
namespace Go.Proofs.Qxb6617303a
open Go.RowKit

/-- A local variable of type Spaces. -/
def SpAt (w : World) (g : Nat) (al : Bool) (a : Option Addr) (n c : Nat) : Prop := w.heap[g]? = some (.cells #[.bool al, .slice a n c] 27 (0, 0))
theorem SpAt.c0 {w : World} {g : Nat} {al : Bool} {a : Option Addr} {n c : Nat} (h : SpAt w g al a n c) : w.cell? ⟨g, 0, none⟩ = some (.bool al) := by unfold SpAt at h; simp [World.cell?, h]
theorem SpAt.c1 {w : World} {g : Nat} {al : Bool} {a : Option Addr} {n c : Nat} (h : SpAt w g al a n c) : w.cell? ⟨g, 1, none⟩ = some (.slice a n c) := by unfold SpAt at h; simp [World.cell?, h]
theorem SpAt.lt {w : World} {g : Nat} {al : Bool} {a : Option Addr} {n c : Nat} (h : SpAt w g al a n c) : g < w.heap.size := lt_of_block h
theorem SpAt.below {w w' : World} {g : Nat} {al : Bool} {a : Option Addr} {n c : Nat} (h : SpAt w g al a n c) (hb : Below w.heap.size w w') : SpAt w' g al a n c := by unfold SpAt; rw [hb.block g h.lt]; exact h
theorem SpAt.made (w : World) (al : Bool) (a : Option Addr) (n c : Nat) : SpAt (w.alloc (.cells #[.bool al, .slice a n c] 27)) w.heap.size al a n c := heap_alloc_new w _

theorem getD_mem {ss : List ByteArray} {k : Nat} (h : k < ss.length) : ss.getD k ByteArray.empty ∈ ss := by
  rw [List.getD_eq_getElem?_getD, List.getElem?_eq_getElem h, Option.getD_some]; exact List.getElem_mem h
theorem mem_at {ss : List ByteArray} {x : ByteArray} (h : x ∈ ss) : ∃ p, p < ss.length ∧ ss.getD p ByteArray.empty = x := by
  rw [List.mem_iff_getElem] at h
  obtain ⟨p, hp, e⟩ := h
  exact ⟨p, hp, by rw [List.getD_eq_getElem?_getD, List.getElem?_eq_getElem hp]; exact e⟩

set_option maxRecDepth 100000 in
set_option maxHeartbeats 4000000 in
theorem commutes_some (aA : Option Addr) (sA : List ByteArray) (cA : Nat) (aB : Option Addr) (sB : List ByteArray) (cB : Nat) (w : World)
    (hA : Strs w aA sA) (hB : Strs w aB sB) (nA : aA = none → cA = 0) (nB : aB = none → cB = 0) :
    Calls Try.prog 4 #[.bool false, .slice aA sA.length cA, .bool false, .slice aB sB.length cB] w fun e w' => Yes w e w' := by
  have HA := (show Hid _ from And.intro hA nA)
  have HB := (show Hid _ from And.intro hB nB)
  clear hA hB nA nB
  go_enter Try.func4, Try.ntmps4
  go_wp2_with fail
  refine (zzBytes11_any false aA sA cA false aB sB cB w HA.out.1 HB.out.1).mono ?_
  rintro e w' ⟨⟨bb, rfl, hbb⟩, hw⟩
  subst w'
  clear hbb
  cases bb with
  | false =>
    go_wp2
    go_ret
    exact ⟨rfl, Below.refl _ _⟩
  | true =>
    go_wp2_with fail
    refine (tooBig_any aA sA cA aB sB cB w HA.out.1 HB.out.1).mono ?_
    rintro e w' ⟨⟨bb, rfl, hbb⟩, hw⟩
    subst w'
    cases bb with
    | true =>
      go_wp2
      go_ret
      exact ⟨rfl, Below.refl _ _⟩
    | false =>
      obtain ⟨lA, lB⟩ := hbb rfl
      clear hbb
      go_wp2_with fail
      have s0 := SpAt.made w false aA sA.length cA
      have t0 := SpAt.made (w.alloc (.cells #[.bool false, .slice aA sA.length cA] 27)) false aB sB.length cB
      have e1 : (w.alloc (.cells #[.bool false, .slice aA sA.length cA] 27)).heap.size = w.heap.size + 1 := by simp
      rw [e1] at t0
      have s1 := s0.below ((Below.refl (w.alloc (.cells #[.bool false, .slice aA sA.length cA] 27)).heap.size _).alloc (Nat.le_refl _) (.cells #[.bool false, .slice aB sB.length cB] 27))
      have b0 := Below.new (Below.new (Below.refl w.heap.size w) (.cells #[.bool false, .slice aA sA.length cA] 27)) (.cells #[.bool false, .slice aB sB.length cB] 27)
      clear s0 e1
      generalize (w.alloc (.cells #[.bool false, .slice aA sA.length cA] 27)).alloc (.cells #[.bool false, .slice aB sB.length cB] 27) = W at *
      refine (union_some aA sA cA aB sB cB W (Strs.below HA.out.1 b0) (Strs.below HB.out.1 b0) HA.out.2 HB.out.2 (by omega) (by omega)).mono ?_
      rintro e w1 ⟨z1, a1, c1, Z1, rfl, O1, B1⟩
      have s2 := s1.below B1
      have t2 := t0.below B1
      have b1 := Below.next b0 B1
      have r1 := SpAt.made w1 false a1 z1.length c1
      have q0 := s2.c0
      have q1 := s2.c1
      have ql := s2.lt
      have p0 := t2.c0
      have p1 := t2.c1
      have pl := t2.lt
      have x1 := (Below.refl w1.heap.size w1).alloc (Nat.le_refl _) (.cells #[.bool false, .slice a1 z1.length c1] 27)
      have HK := (show Hid _ from And.intro b1 (And.intro r1 (And.intro O1.1 x1)))
      clear s1 t0 b0 B1 O1 s2 t2 b1 r1 x1
      go_wp2_with fail
      refine (union_some aB sB cB aA sA cA _ (Strs.below HB.out.1 (Below.next HK.out.1 HK.out.2.2.2)) (Strs.below HA.out.1 (Below.next HK.out.1 HK.out.2.2.2)) HB.out.2 HA.out.2 (by omega) (by omega)).mono ?_
      rintro e w2 ⟨z2, a2, c2, Z2, rfl, O2, B2⟩
      obtain rfl : z2 = z1 := by rw [Z2.out, Z1.out]; exact unionR_comm _ _
      have r2 := HK.out.2.1.below B2
      have b2 := Below.next (Below.next HK.out.1 HK.out.2.2.2) B2
      have S1 := (HK.out.2.2.1.below HK.out.2.2.2).below B2
      have S2 := O2.1
      have m2 := SpAt.made w2 false a2 z2.length c2
      have y0 := r2.c0
      have y1 := r2.c1
      have yl := r2.lt
      have x2 := (Below.refl w2.heap.size w2).alloc (Nat.le_refl _) (.cells #[.bool false, .slice a2 z2.length c2] 27)
      have HM := (show Hid _ from And.intro b2 (And.intro S1 (And.intro S2 (And.intro x2 (r2.below x2)))))
      clear HK q0 q1 ql p0 p1 pl O2 B2 r2 b2 S1 S2 m2 x2
      go_wp2_with fail
      refine (sameNames_any a1 a2 z2 c1 c2 _ (HM.out.2.1.below HM.out.2.2.2.1) (HM.out.2.2.1.below HM.out.2.2.2.1)).mono ?_
      rintro e w3 ⟨rfl, B3⟩
      have r3 := HM.out.2.2.2.2.below B3
      have b3 := Below.next (Below.next HM.out.1 HM.out.2.2.2.1) B3
      have S3 := (HM.out.2.1.below HM.out.2.2.2.1).below B3
      have v0 := r3.c0
      have v1 := r3.c1
      have hlz : z2.length ≤ 8192 := by rw [Z1.out]; have := unionR_length_le sA sB; omega
      have HR := (show Hid (Rising z2) from (by rw [Z1.out]; exact rising_unionR _ _ : Rising z2))
      have HMem := (show Hid (∀ s, s ∈ z2 ↔ s ∈ sA ++ sB) from (fun s => by rw [Z1.out]; exact mem_unionR _ _ s : ∀ s, s ∈ z2 ↔ s ∈ sA ++ sB))
      have HK := (show Hid _ from And.intro b3 S3)
      clear HM B3 r3 b3 S3 Z1 Z2 y0 y1 yl
      go_wp2_with fail
      go_loopw [14] (fun i wr => ∃ j : Nat, j ≤ z2.length ∧ i = .int .i64 ((j : Int) + 1) ∧ Below w3.heap.size w3 wr) (fun i _ => z2.length + 1 - (intOf i).toNat)
      case atStart => exact ⟨0, Nat.zero_le _, rfl, Below.refl _ _⟩
      case round =>
        obtain ⟨j, hj, rfl, bel⟩ := hrel
        by_cases hlt : j + 1 < z2.length
        · obtain ⟨b, off, ha, hb, hc1, _⟩ := (HK.out.2.below bel).2 j (by omega)
          subst ha
          obtain ⟨b', off', ha', _, hc2, _⟩ := (HK.out.2.below bel).2 (j + 1) hlt
          cases ha'
          have hless := HR.out j (j + 1) (by omega) hlt
          have hi1 : (j : Int) + 1 < (z2.length : Int) := by omega
          have hi0 : (j : Int) < (z2.length : Int) := by omega
          generalize z2.getD j ByteArray.empty = x1 at *
          generalize z2.getD (j + 1) ByteArray.empty = x2 at *
          have HB3 := (show Hid _ from bel)
          clear bel
          go_wp2
          go_quiet (fail)
          go_wp2
          go_roundw
          case rel => exact ⟨j + 1, by omega, by go_num, below_drewN HB3.out _⟩
          case measure => simp [intOf]; omega
        · have HB3 := (show Hid _ from bel)
          clear bel
          go_wp2_with fail
          have bel := HB3.out
          clear HB3
          go_loopw [15] (fun i wr => ∃ k : Nat, k ≤ sA.length ∧ i = .int .i64 k ∧ Below w3.heap.size w3 wr) (fun i _ => sA.length - (intOf i).toNat)
          case atStart => exact ⟨0, Nat.zero_le _, rfl, bel⟩
          case round =>
            clear bel
            obtain ⟨k, hk, rfl, bel⟩ := hrel
            by_cases hlt : k < sA.length
            · obtain ⟨b, off, ha, hb, hcell, _⟩ := (Strs.below HA.out.1 (Below.next HK.out.1 bel)).2 k hlt
              subst ha
              obtain ⟨p, hp, hpx⟩ := mem_at ((HMem.out (sA.getD k ByteArray.empty)).2 (List.mem_append.2 (Or.inl (getD_mem hlt))))
              have HP := (show Hid _ from hpx)
              have HB3 := (show Hid _ from bel)
              clear hpx bel
              generalize sA.getD k ByteArray.empty = x at *
              go_wp2_with (go_at_call 12; refine (sortedHas_any a1 z2 c1 x _ (HK.out.2.below HB3.out) HR.out p hp HP.out (by omega)).mono ?_; rintro e w' ⟨rfl, hw⟩; subst w')
              go_roundw
              case rel => exact ⟨k + 1, by omega, by go_num, HB3.out⟩
              case measure => simp [intOf]; omega
            · have HB3 := (show Hid _ from bel)
              clear bel
              go_wp2_with fail
              have bel := HB3.out
              clear HB3
              go_loopw [16] (fun i wr => ∃ k : Nat, k ≤ sB.length ∧ i = .int .i64 k ∧ Below w3.heap.size w3 wr) (fun i _ => sB.length - (intOf i).toNat)
              case atStart => exact ⟨0, Nat.zero_le _, rfl, bel⟩
              case round =>
                clear bel
                obtain ⟨k, hk, rfl, bel⟩ := hrel
                by_cases hlt : k < sB.length
                · obtain ⟨b, off, ha, hb, hcell, _⟩ := (Strs.below HB.out.1 (Below.next HK.out.1 bel)).2 k hlt
                  subst ha
                  obtain ⟨p, hp, hpx⟩ := mem_at ((HMem.out (sB.getD k ByteArray.empty)).2 (List.mem_append.2 (Or.inr (getD_mem hlt))))
                  have HP := (show Hid _ from hpx)
                  have HB3 := (show Hid _ from bel)
                  clear hpx bel
                  generalize sB.getD k ByteArray.empty = x at *
                  go_wp2_with (go_at_call 12; refine (sortedHas_any a1 z2 c1 x _ (HK.out.2.below HB3.out) HR.out p hp HP.out (by omega)).mono ?_; rintro e w' ⟨rfl, hw⟩; subst w')
                  go_roundw
                  case rel => exact ⟨k + 1, by omega, by go_num, HB3.out⟩
                  case measure => simp [intOf]; omega
                · have HB3 := (show Hid _ from bel)
                  clear bel
                  go_wp2_with fail
                  have bel := HB3.out
                  clear HB3
                  go_loopw [17] (fun i wr => ∃ k : Nat, k ≤ z2.length ∧ i = .int .i64 k ∧ Below w3.heap.size w3 wr) (fun i _ => z2.length - (intOf i).toNat)
                  case atStart => exact ⟨0, Nat.zero_le _, rfl, bel⟩
                  case round =>
                    clear bel
                    obtain ⟨k, hk, rfl, bel⟩ := hrel
                    by_cases hlt : k < z2.length
                    · obtain ⟨b, off, ha, hb, hcell, _⟩ := (HK.out.2.below bel).2 k hlt
                      subst ha
                      have hmem := (HMem.out (z2.getD k ByteArray.empty)).1 (getD_mem hlt)
                      have HB3 := (show Hid _ from bel)
                      clear bel
                      generalize z2.getD k ByteArray.empty = x at *
                      by_cases hxa : x ∈ sA
                      · have e1 := hasB_t hxa
                        clear hmem hxa
                        go_wp2_with (go_at_call_of 13 (Value.slice aA sA.length cA); refine (linearHas_any aA sA cA x _ (Strs.below HA.out.1 (Below.next HK.out.1 HB3.out))).mono ?_; rintro e w' ⟨rfl, hw⟩; subst w')
                        go_roundw
                        case rel => exact ⟨k + 1, by omega, by go_num, HB3.out⟩
                        case measure => simp [intOf]; omega
                      · have e1 := hasB_f hxa
                        have e2 := hasB_t (show x ∈ sB from (List.mem_append.1 hmem).resolve_left hxa)
                        clear hmem hxa
                        go_wp2_with (first | (go_at_call_of 13 (Value.slice aA sA.length cA); refine (linearHas_any aA sA cA x _ (Strs.below HA.out.1 (Below.next HK.out.1 HB3.out))).mono ?_; rintro e w' ⟨rfl, hw⟩; subst w') | (go_at_call_of 13 (Value.slice aB sB.length cB); refine (linearHas_any aB sB cB x _ (Strs.below HB.out.1 (Below.next HK.out.1 HB3.out))).mono ?_; rintro e w' ⟨rfl, hw⟩; subst w'))
                        go_roundw
                        case rel => exact ⟨k + 1, by omega, by go_num, HB3.out⟩
                        case measure => simp [intOf]; omega
                    · have HB3 := (show Hid _ from bel)
                      clear bel
                      go_wp2
                      go_ret
                      exact ⟨rfl, Below.next HK.out.1 HB3.out⟩

end Go.Proofs.Qxb6617303a
