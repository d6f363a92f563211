/-
  Seat b6617164a: isDigits computes a plain function of the bytes.
-/
import Derived.Test.Qxb6617164aRows
import Derived.WalkKit
import Derived.WalkSpells
import Derived.WalkLawsBesides
import Derived.Deep.QuietTactic
import Derived.BigQuiet
namespace Go.Proofs.Qxb6617164a
open Go.RowKit

def isD (c : UInt8) : Bool := decide (48 ≤ c.toNat) && decide (c.toNat ≤ 57)
def digs (l : List UInt8) : Bool := l.all isD
/-- One or more decimal digits. -/
def isDig (s : ByteArray) : Bool := digs s.data.toList && !s.data.toList.isEmpty

theorem take_snoc (s : ByteArray) (k : Nat) (h : k < s.size) : s.data.toList.take (k + 1) = s.data.toList.take k ++ [s[k]] := by
  rw [List.take_succ_eq_append_getElem (by simpa using h)]; rfl

theorem digs_snoc (s : ByteArray) (k : Nat) (h : k < s.size) : digs (s.data.toList.take (k + 1)) = (digs (s.data.toList.take k) && isD s[k]) := by
  rw [take_snoc s k h]; simp [digs]

theorem isDig_bad (s : ByteArray) (k : Nat) (h : k < s.size) (hb : isD s[k] = false) : isDig s = false := by
  unfold isDig digs
  rw [Bool.and_eq_false_iff]
  left
  rw [List.all_eq_false]
  exact ⟨s[k], by show s.data[k] ∈ s.data.toList; simp, by simp [hb]⟩

theorem isDig_end (s : ByteArray) (k : Nat) (h : s.size ≤ k) (hd : digs (s.data.toList.take k) = true) : isDig s = !s.toList.isEmpty := by
  rw [List.take_of_length_le (by simpa using h)] at hd
  unfold isDig
  rw [hd, ByteArray.toList_eq]; simp

def RetB (b : Bool) (w : World) (e : Ending) (w' : World) : Prop := e = .returned (.bool b) ∧ w' = w
theorem ret_b {b b' : Bool} (w : World) (h : b = b') : RetB b' w (.returned (.bool b)) w := ⟨by rw [h], rfl⟩

set_option maxHeartbeats 400000 in
theorem isDigits_any (s : ByteArray) (w : World) (hs : s.size ≤ maxLen) :
    Calls Try.prog 17 #[.string s] w fun e w' => RetB (isDig s) w e w' := by
  unfold maxLen at hs
  go_enter Try.func17, Try.ntmps17
  go_wp2
  go_loop [3] (fun i => ∃ k : Nat, k ≤ s.size ∧ i = .int .i64 k ∧ digs (s.data.toList.take k) = true) (fun i => s.size - (intOf i).toNat)
  case atStart => exact ⟨0, Nat.zero_le _, rfl, rfl⟩
  case round =>
    obtain ⟨k, hk, rfl, hd⟩ := hrel
    have HD := (show Hid _ from hd)
    clear hd
    by_cases hlt : k < s.size
    · have hsn := (show Hid _ from digs_snoc s k hlt)
      have hbad := (show Hid _ from isDig_bad s k hlt)
      by_cases c1 : (s[k].toNat : Int) < 48
      · have E := (show Hid _ from hbad.out (by unfold isD; simp; omega))
        go_wp2
        go_ret
        exact ret_b _ E.out.symm
      · by_cases c2 : (57 : Int) < (s[k].toNat : Int)
        · have E := (show Hid _ from hbad.out (by unfold isD; simp; omega))
          go_wp2
          go_ret
          exact ret_b _ E.out.symm
        · have E := (show Hid _ from hsn.out.trans (show (digs (s.data.toList.take k) && isD s[k]) = true by rw [HD.out]; unfold isD; simp; omega))
          go_wp2
          go_round
          case rel => exact ⟨k + 1, by omega, by go_num, E.out⟩
          case measure => simp [intOf]; omega
    · have E := (show Hid _ from isDig_end s k (by omega) HD.out)
      go_wp2
      go_ret
      exact ret_b _ E.out.symm

set_option maxHeartbeats 400000 in
theorem zzIsDigits_any (s : ByteArray) (w : World) (hs : s.size ≤ maxLen) :
    Calls Try.prog 8 #[.string s] w fun e w' => RetB (isDig s) w e w' := by
  go_enter Try.func8, Try.ntmps8
  go_wp2_with (go_at_call 17; refine (isDigits_any s _ hs).mono ?_; rintro e w' ⟨rfl, hw⟩; subst w')
  go_ret
  exact ret_b _ rfl

end Go.Proofs.Qxb6617164a
