/-
  Seat b6619236a: the walk of FnBackrefShiftedByPrefix.
-/
import Derived.Test.Qxb6619236aSpec
namespace Go.Proofs.Qxb6619236a
open Go.RowKit

set_option maxHeartbeats 400000 in
theorem zzBytes8_any (p s : ByteArray) (q : Int) (w : World) (hp : p.size ≤ maxLen) (hs : s.size ≤ maxLen) :
    Calls Try.prog 8 #[.string p, .string s, .int .i64 q] w fun e w' => RetIf True w e w' := by
  unfold maxLen at hp hs
  go_enter Try.func8, Try.ntmps8
  go_wp2
  all_goals (go_ret; exact ret_if _ (fun _ => trivial))

set_option maxHeartbeats 1000000 in
theorem shift_none (p s : ByteArray) (q : Nat) (w : World) (hp : p.size ≤ 524288) (hs : s.size ≤ 524288) (hq : q ≤ s.size) (hR : scanAt s q (q + 1) 0 0 = none) :
    Calls Try.prog 4 #[.string p, .string s, .int .i64 (q : Int)] w fun e w' => Yes w e w' := by
  have HR := (show Hid _ from hR)
  clear hR
  go_enter Try.func4, Try.ntmps4
  go_wp2_with fail
  refine (zzBytes8_any p s q w (by unfold maxLen; omega) (by unfold maxLen; omega)).mono ?_
  rintro e w' ⟨⟨bb, rfl, -⟩, hw⟩
  subst w'
  cases bb with
  | false =>
    go_wp2
    go_ret
    exact ⟨rfl, Below.refl _ _⟩
  | true =>
    go_wp2_with fail
    refine (zzbackref_any s q w (by omega) hq none HR.out).mono ?_
    rintro e w1 ⟨he, hb1⟩
    unfold tup at he
    subst he
    go_wp2_with fail
    refine (model_any s q w1 (by omega) hq none HR.out).mono ?_
    rintro e w' ⟨he, hw⟩
    subst w'
    unfold tup at he
    subst he
    go_wp2
    go_ret
    exact ⟨rfl, hb1⟩

theorem zzbackref_at (p s : ByteArray) (q : Nat) (w : World) (hs : p.size + s.size ≤ 1048576) (hq : q ≤ s.size) (R : Option (Nat × Nat)) (hR : scanAt (p ++ s) (q + p.size) (q + p.size + 1) 0 0 = R) :
    Calls Try.prog 6 #[.string (p ++ s), .int .i64 ((q : Int) + (p.size : Int))] w fun e w' => RetN (q + p.size) R w e w' := by
  have e : ((q : Int) + (p.size : Int)) = ((q + p.size : Nat) : Int) := by omega
  rw [e]
  exact zzbackref_any (p ++ s) (q + p.size) w (by simp; omega) (by simp; omega) R hR

set_option maxHeartbeats 1000000 in
theorem shift_some (p s : ByteArray) (q v n : Nat) (w : World) (hp : p.size ≤ 524288) (hs : s.size ≤ 524288) (hq : q ≤ s.size) (hR : scanAt s q (q + 1) 0 0 = some (v, n)) (hv : v ≤ q) :
    Calls Try.prog 4 #[.string p, .string s, .int .i64 (q : Int)] w fun e w' => Yes w e w' := by
  have HR := (show Hid _ from hR)
  have HR2 := (show Hid _ from scanAt_shift p s q _ hR)
  clear hR
  have hsum : (p ++ s).size = p.size + s.size := by simp
  go_enter Try.func4, Try.ntmps4
  go_wp2_with fail
  refine (zzBytes8_any p s q w (by unfold maxLen; omega) (by unfold maxLen; omega)).mono ?_
  rintro e w' ⟨⟨bb, rfl, -⟩, hw⟩
  subst w'
  cases bb with
  | false =>
    go_wp2
    go_ret
    exact ⟨rfl, Below.refl _ _⟩
  | true =>
    go_wp2_with fail
    refine (zzbackref_any s q w (by omega) hq _ HR.out).mono ?_
    rintro e w1 ⟨he, hb1⟩
    unfold tup at he
    subst he
    go_wp2_with fail
    refine (model_any s q w1 (by omega) hq _ HR.out).mono ?_
    rintro e w' ⟨he, hw⟩
    subst w'
    unfold tup at he
    subst he
    go_wp2_with fail
    refine (zzbackref_at p s q w1 (by omega) (by omega) _ HR2.out).mono ?_
    rintro e w2 ⟨he, hb2⟩
    unfold tup at he
    subst he
    have hb3 : Below w.heap.size w w2 := hb1.trans (hb2.mono hb1.size)
    go_wp2
    go_ret
    exact ⟨by simp, hb3⟩

set_option maxHeartbeats 1000000 in
theorem shift_out (p s : ByteArray) (q : Int) (w : World) (hp : p.size ≤ maxLen) (hs : s.size ≤ maxLen) (h : 524288 < p.size ∨ 524288 < s.size ∨ q < 0 ∨ (s.size : Int) < q) :
    Calls Try.prog 4 #[.string p, .string s, .int .i64 q] w fun e w' => Yes w e w' := by
  unfold maxLen at hs hp
  rcases h with h | h | h | h
  all_goals
    go_enter Try.func4, Try.ntmps4
    go_wp2_with fail
    refine (zzBytes8_any p s q w hp hs).mono ?_
    rintro e w' ⟨⟨bb, rfl, -⟩, hw⟩
    subst w'
    cases bb
    all_goals
      go_wp2
      all_goals (go_ret; exact ⟨rfl, Below.refl _ _⟩)

theorem shift_walk (p s : ByteArray) (q : Int) (w : World) (hp : p.size ≤ maxLen) (hs : s.size ≤ maxLen) :
    Calls Try.prog 4 #[.string p, .string s, .int .i64 q] w fun e w' => Yes w e w' := by
  by_cases h : 524288 < p.size ∨ 524288 < s.size ∨ q < 0 ∨ (s.size : Int) < q
  · exact shift_out p s q w hp hs h
  · obtain ⟨m, rfl⟩ : ∃ n : Nat, q = n := ⟨q.toNat, by omega⟩
    cases hR : scanAt s m (m + 1) 0 0 with
    | none => exact shift_none p s m w (by omega) (by omega) (by omega) hR
    | some x =>
      have hx := scanAt_le s m x hR
      exact shift_some p s m x.1 x.2 w (by omega) (by omega) (by omega) hR hx.1

end Go.Proofs.Qxb6619236a
