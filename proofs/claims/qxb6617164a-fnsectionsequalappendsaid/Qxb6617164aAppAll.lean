/-
  Seat b6617164a: FnSectionsEqualAppend at every input.
-/
import Derived.Test.Qxb6617164aApp
namespace Go.Proofs.Qxb6617164a
open Go.RowKit

set_option maxRecDepth 100000 in
set_option maxHeartbeats 1000000 in
theorem app_long (aA : Option Addr) (sA : List ByteArray) (cA : Nat) (ta y : ByteArray) (aB : Option Addr) (sB : List ByteArray) (cB : Nat) (tb z : ByteArray) (w : World)
    (hA : Strs w aA sA) (hB : Strs w aB sB) (hta : ta.size ≤ maxLen) (hy : y.size ≤ maxLen) (htb : tb.size ≤ maxLen) (hz : z.size ≤ maxLen)
    (hl : 1048576 < ta.size ∨ (ta.size ≤ 1048576 ∧ 1048576 < y.size) ∨ (ta.size ≤ 1048576 ∧ y.size ≤ 1048576 ∧ 1048576 < tb.size) ∨ (ta.size ≤ 1048576 ∧ y.size ≤ 1048576 ∧ tb.size ≤ 1048576 ∧ 1048576 < z.size)) :
    Calls Try.prog 4 #[.slice aA sA.length cA, .string ta, .string y, .slice aB sB.length cB, .string tb, .string z] w fun e w' => Yes w e w' := by
  have HA := (show Hid _ from hA)
  have HB := (show Hid _ from hB)
  clear hA hB
  rcases hl with h1 | ⟨h1, h2⟩ | ⟨h1, h2, h3⟩ | ⟨h1, h2, h3, h4⟩
  all_goals
    go_enter Try.func4, Try.ntmps4
    go_wp2_with fail
    refine (zzBytesApp_any aA sA cA ta y aB sB cB tb z w HA.out hta hy HB.out htb hz).mono ?_
    rintro e w' ⟨⟨bb, rfl, hbb⟩, hw⟩
    subst w'
    clear hbb
    unfold maxLen at hta htb hy hz
    cases bb
    all_goals (go_wp2; go_ret; exact ⟨rfl, Below.refl _ _⟩)

theorem app_walk (aA : Option Addr) (sA : List ByteArray) (cA : Nat) (ta y : ByteArray) (aB : Option Addr) (sB : List ByteArray) (cB : Nat) (tb z : ByteArray) (w : World)
    (hA : Strs w aA sA) (hB : Strs w aB sB) (hta : ta.size ≤ maxLen) (hy : y.size ≤ maxLen) (htb : tb.size ≤ maxLen) (hz : z.size ≤ maxLen) :
    Calls Try.prog 4 #[.slice aA sA.length cA, .string ta, .string y, .slice aB sB.length cB, .string tb, .string z] w fun e w' => Yes w e w' := by
  by_cases h : ta.size ≤ 1048576 ∧ y.size ≤ 1048576 ∧ tb.size ≤ 1048576 ∧ z.size ≤ 1048576
  · exact app_main aA sA cA ta y aB sB cB tb z w hA hB hta hy htb hz h.1 h.2.1 h.2.2.1 h.2.2.2
  · exact app_long aA sA cA ta y aB sB cB tb z w hA hB hta hy htb hz (by omega)

end Go.Proofs.Qxb6617164a
