/-
  Seat b6617164a: FnSectionsEqualCut at every input.
-/
import Derived.Test.Qxb6617164aCut
namespace Go.Proofs.Qxb6617164a
open Go.RowKit

set_option maxRecDepth 100000 in
set_option maxHeartbeats 1000000 in
theorem cut_long (aA : Option Addr) (sA : List ByteArray) (cA : Nat) (aB : Option Addr) (sB : List ByteArray) (cB : Nat) (aC : Option Addr) (sC : List ByteArray) (cC : Nat) (aD : Option Addr) (sD : List ByteArray) (cD : Nat) (ta tb : ByteArray) (w : World)
    (hA : Strs w aA sA) (hB : Strs w aB sB) (hC : Strs w aC sC) (hD : Strs w aD sD) (hta : ta.size ≤ maxLen) (htb : tb.size ≤ maxLen) (hl : 1048576 < ta.size ∨ 1048576 < tb.size) :
    Calls Try.prog 5 #[.slice aA sA.length cA, .slice aB sB.length cB, .slice aC sC.length cC, .slice aD sD.length cD, .string ta, .string tb] w fun e w' => Yes w e w' := by
  have HZ := (show Hid _ from And.intro hA (And.intro hB (And.intro hC hD)))
  clear hA hB hC hD
  by_cases h1 : 1048576 < ta.size
  · clear hl
    go_enter Try.func5, Try.ntmps5
    go_wp2_with fail
    refine (zzBytesCut_any aA sA cA aB sB cB aC sC cC aD sD cD ta tb w HZ.out.1 HZ.out.2.1 HZ.out.2.2.1 HZ.out.2.2.2 hta htb).mono ?_
    rintro e w' ⟨⟨bb, rfl, hbb⟩, hw⟩
    subst w'
    clear hbb
    unfold maxLen at hta htb
    cases bb
    all_goals (go_wp2; go_ret; exact ⟨rfl, Below.refl _ _⟩)
  · have h2 : 1048576 < tb.size := by omega
    clear hl
    go_enter Try.func5, Try.ntmps5
    go_wp2_with fail
    refine (zzBytesCut_any aA sA cA aB sB cB aC sC cC aD sD cD ta tb w HZ.out.1 HZ.out.2.1 HZ.out.2.2.1 HZ.out.2.2.2 hta htb).mono ?_
    rintro e w' ⟨⟨bb, rfl, hbb⟩, hw⟩
    subst w'
    clear hbb
    unfold maxLen at hta htb
    cases bb
    all_goals (go_wp2; go_ret; exact ⟨rfl, Below.refl _ _⟩)

set_option maxRecDepth 100000 in
set_option maxHeartbeats 1000000 in
theorem cut_unlike (aA : Option Addr) (sA : List ByteArray) (cA : Nat) (aB : Option Addr) (sB : List ByteArray) (cB : Nat) (aC : Option Addr) (sC : List ByteArray) (cC : Nat) (aD : Option Addr) (sD : List ByteArray) (cD : Nat) (ta tb : ByteArray) (w : World)
    (hA : Strs w aA sA) (hB : Strs w aB sB) (hC : Strs w aC sC) (hD : Strs w aD sD) (hta : ta.size ≤ maxLen) (htb : tb.size ≤ maxLen) (hta2 : ta.size ≤ 1048576) (htb2 : tb.size ≤ 1048576) (hlen : ¬ sA.length = sC.length) :
    Calls Try.prog 5 #[.slice aA sA.length cA, .slice aB sB.length cB, .slice aC sC.length cC, .slice aD sD.length cD, .string ta, .string tb] w fun e w' => Yes w e w' := by
  have HA := (show Hid _ from hA)
  have HB := (show Hid _ from hB)
  have HC := (show Hid _ from hC)
  have HD := (show Hid _ from hD)
  have hne : ((sA.length : Int) != (sC.length : Int)) = true := by rw [bne_iff_ne]; omega
  clear hA hB hC hD hlen
  go_enter Try.func5, Try.ntmps5
  go_wp2_with fail
  refine (zzBytesCut_any aA sA cA aB sB cB aC sC cC aD sD cD ta tb w HA.out HB.out HC.out HD.out hta htb).mono ?_
  rintro e w' ⟨⟨bb, rfl, hbb⟩, hw⟩
  subst w'
  clear hbb
  unfold maxLen at hta htb
  cases bb with
  | false =>
    go_wp2
    go_ret
    exact ⟨rfl, Below.refl _ _⟩
  | true =>
    go_wp2_with (first | (go_at_call_of 10 (Value.slice aA sA.length cA); refine (strBytes_any _ aA sA cA _ HA.out (by omega) (by omega)).mono ?_; rintro e w' ⟨⟨r1, rfl, h10, h11⟩, hw⟩; subst w') | (go_at_call_of 10 (Value.slice aB sB.length cB); refine (strBytes_any _ aB sB cB _ HB.out (by omega) (by omega)).mono ?_; rintro e w' ⟨⟨r2, rfl, h20, h21⟩, hw⟩; subst w') | (go_at_call_of 10 (Value.slice aC sC.length cC); refine (strBytes_any _ aC sC cC _ HC.out (by omega) (by omega)).mono ?_; rintro e w' ⟨⟨r3, rfl, h30, h31⟩, hw⟩; subst w') | (go_at_call_of 10 (Value.slice aD sD.length cD); refine (strBytes_any _ aD sD cD _ HD.out (by omega) (by omega)).mono ?_; rintro e w' ⟨⟨r4, rfl, h40, h41⟩, hw⟩; subst w'))
    all_goals
      go_ret
      exact ⟨rfl, Below.refl _ _⟩

theorem cut_walk (aA : Option Addr) (sA : List ByteArray) (cA : Nat) (aB : Option Addr) (sB : List ByteArray) (cB : Nat) (aC : Option Addr) (sC : List ByteArray) (cC : Nat) (aD : Option Addr) (sD : List ByteArray) (cD : Nat) (ta tb : ByteArray) (w : World)
    (hA : Strs w aA sA) (hB : Strs w aB sB) (hC : Strs w aC sC) (hD : Strs w aD sD) (hta : ta.size ≤ maxLen) (htb : tb.size ≤ maxLen) :
    Calls Try.prog 5 #[.slice aA sA.length cA, .slice aB sB.length cB, .slice aC sC.length cC, .slice aD sD.length cD, .string ta, .string tb] w fun e w' => Yes w e w' := by
  by_cases h1 : 1048576 < ta.size ∨ 1048576 < tb.size
  · exact cut_long aA sA cA aB sB cB aC sC cC aD sD cD ta tb w hA hB hC hD hta htb h1
  · by_cases h2 : sA.length = sC.length
    · exact cut_main aA sA cA aB sB cB aC sC cC aD sD cD ta tb w hA hB hC hD hta htb (by omega) (by omega) h2
    · exact cut_unlike aA sA cA aB sB cB aC sC cC aD sD cD ta tb w hA hB hC hD hta htb (by omega) (by omega) h2

end Go.Proofs.Qxb6617164a
