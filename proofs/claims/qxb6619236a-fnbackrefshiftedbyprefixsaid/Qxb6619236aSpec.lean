/-
  Seat b6619236a: the walk of FnBackrefSpec.
-/
import Derived.Test.Qxb6619236aBackref
import Derived.OpenShut
namespace Go.Proofs.Qxb6619236a
open Go.RowKit

def RetIf (P : Prop) (w : World) (e : Ending) (w' : World) : Prop := (∃ b : Bool, e = .returned (.bool b) ∧ (b = true → P)) ∧ w' = w
theorem ret_if {r : Bool} {P : Prop} (w : World) (h : r = true → P) : RetIf P w (.returned (.bool r)) w := ⟨⟨r, rfl, h⟩, rfl⟩
def Yes (w : World) (e : Ending) (w' : World) : Prop := e = .returned (.bool true) ∧ Below w.heap.size w w'

set_option maxHeartbeats 400000 in
theorem zzBytes5_any (s : ByteArray) (q : Int) (w : World) (hs : s.size ≤ maxLen) :
    Calls Try.prog 5 #[.string s, .int .i64 q] w fun e w' => RetIf (s.size ≤ 1048576) w e w' := by
  unfold maxLen at hs
  go_enter Try.func5, Try.ntmps5
  go_wp2
  all_goals (go_ret; exact ret_if _ (by first | (simp; done) | (intro _; omega)))

set_option maxHeartbeats 1000000 in
theorem spec_in (s : ByteArray) (q : Nat) (w : World) (hs : s.size ≤ 1048576) (hq : q ≤ s.size) :
    Calls Try.prog 3 #[.string s, .int .i64 (q : Int)] w fun e w' => Yes w e w' := by
  obtain ⟨R, hR⟩ : ∃ R, scanAt s q (q + 1) 0 0 = R := ⟨_, rfl⟩
  obtain ⟨a, b, c, ht⟩ := tup_vals q R
  have HT := (show Hid _ from ht)
  have HR := (show Hid _ from hR)
  clear ht hR
  go_enter Try.func3, Try.ntmps3
  go_wp2_with fail
  refine (zzBytes5_any s q w (by unfold maxLen; omega)).mono ?_
  rintro e w' ⟨⟨bb, rfl, -⟩, hw⟩
  subst w'
  cases bb with
  | false =>
    go_wp2
    go_ret
    exact ⟨rfl, Below.refl _ _⟩
  | true =>
    go_wp2_with fail
    refine (zzbackref_any s q w hs hq R HR.out).mono ?_
    rintro e w1 ⟨he, hb1⟩
    rw [HT.out] at he
    subst he
    go_wp2_with fail
    refine (model_any s q w1 hs hq R HR.out).mono ?_
    rintro e w' ⟨he, hw⟩
    subst w'
    rw [HT.out] at he
    subst he
    go_wp2
    go_ret
    exact ⟨by simp, hb1⟩

set_option maxHeartbeats 1000000 in
theorem spec_out (s : ByteArray) (q : Int) (w : World) (hs : s.size ≤ maxLen) (h : 1048576 < s.size ∨ q < 0 ∨ (s.size : Int) < q) :
    Calls Try.prog 3 #[.string s, .int .i64 q] w fun e w' => Yes w e w' := by
  unfold maxLen at hs
  rcases h with h | h | h
  all_goals
    go_enter Try.func3, Try.ntmps3
    go_wp2_with fail
    refine (zzBytes5_any s q w hs).mono ?_
    rintro e w' ⟨⟨bb, rfl, -⟩, hw⟩
    subst w'
    cases bb
    all_goals
      go_wp2
      all_goals (go_ret; exact ⟨rfl, Below.refl _ _⟩)

theorem spec_walk (s : ByteArray) (q : Int) (w : World) (hs : s.size ≤ maxLen) :
    Calls Try.prog 3 #[.string s, .int .i64 q] w fun e w' => Yes w e w' := by
  by_cases h : 1048576 < s.size ∨ q < 0 ∨ (s.size : Int) < q
  · exact spec_out s q w hs h
  · obtain ⟨n, rfl⟩ : ∃ n : Nat, q = n := ⟨q.toNat, by omega⟩
    exact spec_in s n w (by omega) (by omega)

end Go.Proofs.Qxb6619236a
