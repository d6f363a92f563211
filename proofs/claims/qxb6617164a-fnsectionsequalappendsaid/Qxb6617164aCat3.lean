/-
  Seat b6617164a: zzCat3.
-/
import Derived.Test.Qxb6617164aStrs
namespace Go.Proofs.Qxb6617164a
open Go.RowKit

set_option maxHeartbeats 1000000 in
theorem cat3_any (a : Option Addr) (xs : List ByteArray) (ca : Nat) (y : ByteArray) (hy0 : y.size ≤ maxLen) (b : Option Addr) (ys : List ByteArray) (cb : Nat) (w : World) (hx : Strs w a xs) (hy : Strs w b ys) (hlx : xs.length ≤ 1048576) (hly : ys.length ≤ 1048576) :
    Calls Try.prog 13 #[.slice a xs.length ca, .string y, .slice b ys.length cb] w fun e w' => FreshP (xs ++ y :: ys) w e w' := by
  have HX := (show Hid _ from hx)
  have HY := (show Hid _ from hy)
  clear hx hy
  obtain ⟨zs, hzs⟩ : ∃ zs, zs = xs ++ y :: ys := ⟨_, rfl⟩
  rw [← hzs]
  have Z1 := (show Hid (∀ k, k < xs.length → zs.getD k ByteArray.empty = xs.getD k ByteArray.empty) from fun k hk => by rw [hzs, getD_append, if_pos hk])
  have Z0 := (show Hid (zs.getD xs.length ByteArray.empty = y) from (by rw [hzs, getD_append, if_neg (by omega), Nat.sub_self]; rfl : zs.getD xs.length ByteArray.empty = y))
  have Z2 := (show Hid (∀ k, zs.getD (xs.length + 1 + k) ByteArray.empty = ys.getD k ByteArray.empty) from fun k => by rw [hzs, getD_append, if_neg (by omega), show xs.length + 1 + k - xs.length = k + 1 by omega]; rfl)
  have Z3 := (show Hid (zs.length = xs.length + 1 + ys.length) from (by rw [hzs, List.length_append, List.length_cons]; omega : zs.length = xs.length + 1 + ys.length))
  clear hzs
  obtain ⟨N, hN⟩ : ∃ N, N = xs.length + 1 + ys.length := ⟨_, rfl⟩
  have hNi : (xs.length : Int) + 1 + (ys.length : Int) = (N : Int) := by omega
  have HN := (show Hid _ from hN)
  have hN1 : xs.length < N := by omega
  have hN2 : N ≤ 2097153 := by omega
  clear hN
  obtain ⟨i0, hi, hz0, hz1, hz2⟩ := info_parts Try.info9
  go_enter Try.func13, Try.ntmps13
  go_wp2_with (at_make; refine wpList_make_full _ rfl _ _ 27 rfl w.heap.size 9 i0 (.string ⟨#[]⟩) 1 Try.underlying27 hi hz0 hz1 .i64 .i64 _ _ N rfl rfl (by omega) (by omega) (by rw [hz2]; omega) (by unfold maxLen; omega) (Nat.le_refl _) ?_; intro w1 hown hgrow)
  clear hNi hi hz0 hz1 hz2
  go_loopw [8] (fun i wr => ∃ (k : Nat) (cs : List Value), k ≤ xs.length ∧ i = .int .i64 k ∧ wr.ownsRow w.heap.size 9 1 (.slice (some ⟨w.heap.size, 0, none⟩) N N) N cs ∧ Filled zs k cs ∧ Below w.heap.size w wr) (fun i _ => xs.length - (intOf i).toNat)
  case atStart => exact ⟨0, _, Nat.zero_le _, rfl, hown, fun j hj => by omega, (Below.refl _ _).grown hgrow (Nat.le_refl _) (fun k hk => by simp at hk)⟩
  case round =>
    obtain ⟨k, cs, hk, rfl, hrow, hfil, hbel⟩ := hrel
    clear hown hgrow
    by_cases hlt : k < xs.length
    · obtain ⟨bb, off, rfl, hb, hcell, hsz⟩ := HX.out.2 k hlt
      obtain ⟨st, ⟨u, hu⟩, hfr⟩ := step_row hrow hfil hbel (by omega) (Nat.le_refl _) _ (Z1.out k hlt)
      have hcell2 : wr.cell? ⟨bb, off + k, none⟩ = some (.string (xs.getD k ByteArray.empty)) := (hbel.cell (p := ⟨bb, off + k, none⟩) hb).trans hcell
      have hkN : (k : Int) < (N : Int) := by omega
      clear hcell hbel hrow hfil
      generalize xs.getD k ByteArray.empty = s at *
      go_wp2
      go_roundw
      case rel => exact ⟨k + 1, _, by omega, by go_num, st.out.1, st.out.2.1, st.out.2.2⟩
      case measure => simp [intOf]; omega
    · have hkk : k = xs.length := by omega
      subst hkk
      obtain ⟨st, ⟨u, hu⟩, hfr⟩ := step_row hrow hfil hbel (by omega) (Nat.le_refl _) _ Z0.out
      have hkN : (xs.length : Int) < (N : Int) := by omega
      clear hbel hrow hfil hlt hk
      go_wp2
      go_loopw [9] (fun i wr => ∃ (k : Nat) (cs : List Value), k ≤ ys.length ∧ i = .int .i64 k ∧ wr.ownsRow w.heap.size 9 1 (.slice (some ⟨w.heap.size, 0, none⟩) N N) N cs ∧ Filled zs (xs.length + 1 + k) cs ∧ Below w.heap.size w wr) (fun i _ => ys.length - (intOf i).toNat)
      case atStart => exact ⟨0, _, Nat.zero_le _, rfl, st.out.1, st.out.2.1, st.out.2.2⟩
      case round =>
        obtain ⟨k, cs, hk, rfl, hrow, hfil, hbel⟩ := hrel
        clear st hu hfr hkN
        by_cases hlt : k < ys.length
        · obtain ⟨bb, off, rfl, hb, hcell, hsz⟩ := HY.out.2 k hlt
          have hkN : (xs.length : Int) + 1 + (k : Int) < (N : Int) := by have := HN.out; omega
          obtain ⟨st, ⟨u, hu⟩, hfr⟩ := step_row hrow hfil hbel (by omega) (Nat.le_refl _) _ (Z2.out k)
          have hcell2 : wr.cell? ⟨bb, off + k, none⟩ = some (.string (ys.getD k ByteArray.empty)) := (hbel.cell (p := ⟨bb, off + k, none⟩) hb).trans hcell
          clear hcell hbel hrow hfil
          generalize ys.getD k ByteArray.empty = s at *
          go_wp2
          go_roundw
          case rel => exact ⟨k + 1, _, by omega, by go_num, st.out.1, st.out.2.1, st.out.2.2⟩
          case measure => simp [intOf]; omega
        · have hkk : k = ys.length := by omega
          have HB := (show Hid _ from And.intro hrow (And.intro hfil hbel))
          have HK := (show Hid _ from hkk)
          clear hbel hrow hfil hkk
          go_wp2
          go_ret
          have eN : N = zs.length := by rw [Z3.out, HN.out]
          refine fresh_mk eN ?_ HB.out.2.2
          have hf := HB.out.2.1
          rw [HK.out, ← Z3.out] at hf
          have ho := HB.out.1
          rw [eN] at ho
          refine hf.strs (by unfold maxLen; omega) (fun j hj => ?_) ho
          by_cases h : j < xs.length
          · rw [Z1.out j h]; exact Strs.size_le HX.out j h
          · by_cases h2 : j = xs.length
            · rw [h2, Z0.out]; exact hy0
            · have := Strs.size_le HY.out (j - xs.length - 1) (by have := Z3.out; omega)
              rw [← Z2.out, show xs.length + 1 + (j - xs.length - 1) = j by omega] at this
              exact this

end Go.Proofs.Qxb6617164a
