/-
  Seat b6617164a: the byte bounds laid by program: they answer a bool; where it is true each slice holds at most 1<<20 strings.
-/
import Derived.Test.Qxb6617164aStrs
namespace Go.Proofs.Qxb6617164a
open Go.RowKit

/-- It hands back a bool; where that is true, P; the world stands. -/
def RetIf (P : Prop) (w : World) (e : Ending) (w' : World) : Prop := (∃ b : Bool, e = .returned (.bool b) ∧ (b = true → P)) ∧ w' = w
theorem ret_if {r : Bool} {P : Prop} (w : World) (h : r = true → P) : RetIf P w (.returned (.bool r)) w := ⟨⟨r, rfl, h⟩, rfl⟩

set_option maxHeartbeats 2000000 in
theorem zzBytesApp_any (aA : Option Addr) (sA : List ByteArray) (cA : Nat) (ta : ByteArray) (y : ByteArray) (aB : Option Addr) (sB : List ByteArray) (cB : Nat) (tb : ByteArray) (zz : ByteArray) (w : World) (hA : Strs w aA sA) (hta : ta.size ≤ maxLen) (hy : y.size ≤ maxLen) (hB : Strs w aB sB) (htb : tb.size ≤ maxLen) (hzz : zz.size ≤ maxLen) :
    Calls Try.prog 9 #[.slice aA sA.length cA, .string ta, .string y, .slice aB sB.length cB, .string tb, .string zz] w fun e w' => RetIf (sA.length ≤ 1048576 ∧ sB.length ≤ 1048576) w e w' := by
  obtain ⟨hlA, hcA⟩ := hA
  obtain ⟨hlB, hcB⟩ := hB
  unfold maxLen at *
  have HCA := (show Hid _ from hcA)
  have HCB := (show Hid _ from hcB)
  clear hcA hcB
  go_enter Try.func9, Try.ntmps9
  go_wp2
  all_goals try (go_ret; exact ret_if _ (by simp))
  go_loop [13, 14] (fun m i => ∃ (k : Nat) (z : Int), k ≤ sA.length ∧ i = .int .i64 k ∧ m = .int .i64 z ∧ 0 ≤ z ∧ z ≤ 1048576) (fun _ i => sA.length - (intOf i).toNat)
  case atStart => exact ⟨0, _, Nat.zero_le _, rfl, rfl, by omega, by omega⟩
  case round =>
    obtain ⟨k, z, hk, rfl, rfl, hz0, hz1⟩ := hrel
    by_cases hlt : k < sA.length
    · obtain ⟨b, off, rfl, hb, hcell, hsz⟩ := HCA.out k hlt
      generalize sA.getD k ByteArray.empty = s at hcell hsz
      go_wp2
      all_goals try (go_ret; exact ret_if _ (by simp))
      go_round
      case rel => exact ⟨k + 1, _, by omega, by go_num, rfl, by omega, by omega⟩
      case measure => simp [intOf]; omega
    · go_wp2
      all_goals try (go_ret; exact ret_if _ (by simp))
      go_loop [13, 15] (fun m i => ∃ (k : Nat) (z : Int), k ≤ sB.length ∧ i = .int .i64 k ∧ m = .int .i64 z ∧ 0 ≤ z ∧ z ≤ 1048576) (fun _ i => sB.length - (intOf i).toNat)
      case atStart => exact ⟨0, _, Nat.zero_le _, rfl, rfl, by omega, by omega⟩
      case round =>
        obtain ⟨k, z, hk, rfl, rfl, hz0, hz1⟩ := hrel
        by_cases hlt : k < sB.length
        · obtain ⟨b, off, rfl, hb, hcell, hsz⟩ := HCB.out k hlt
          generalize sB.getD k ByteArray.empty = s at hcell hsz
          go_wp2
          all_goals try (go_ret; exact ret_if _ (by simp))
          go_round
          case rel => exact ⟨k + 1, _, by omega, by go_num, rfl, by omega, by omega⟩
          case measure => simp [intOf]; omega
        · go_wp2
          all_goals (go_ret; exact ret_if _ (by first | (simp; done) | (intro _; exact ⟨by omega, by omega⟩)))

set_option maxHeartbeats 2000000 in
theorem zzBytesCut_any (aA : Option Addr) (sA : List ByteArray) (cA : Nat) (aB : Option Addr) (sB : List ByteArray) (cB : Nat) (aC : Option Addr) (sC : List ByteArray) (cC : Nat) (aD : Option Addr) (sD : List ByteArray) (cD : Nat) (ta : ByteArray) (tb : ByteArray) (w : World) (hA : Strs w aA sA) (hB : Strs w aB sB) (hC : Strs w aC sC) (hD : Strs w aD sD) (hta : ta.size ≤ maxLen) (htb : tb.size ≤ maxLen) :
    Calls Try.prog 16 #[.slice aA sA.length cA, .slice aB sB.length cB, .slice aC sC.length cC, .slice aD sD.length cD, .string ta, .string tb] w fun e w' => RetIf (sA.length ≤ 1048576 ∧ sB.length ≤ 1048576 ∧ sC.length ≤ 1048576 ∧ sD.length ≤ 1048576) w e w' := by
  obtain ⟨hlA, hcA⟩ := hA
  obtain ⟨hlB, hcB⟩ := hB
  obtain ⟨hlC, hcC⟩ := hC
  obtain ⟨hlD, hcD⟩ := hD
  unfold maxLen at *
  have HCA := (show Hid _ from hcA)
  have HCB := (show Hid _ from hcB)
  have HCC := (show Hid _ from hcC)
  have HCD := (show Hid _ from hcD)
  clear hcA hcB hcC hcD
  go_enter Try.func16, Try.ntmps16
  go_wp2
  all_goals try (go_ret; exact ret_if _ (by simp))
  go_loop [13, 14] (fun m i => ∃ (k : Nat) (z : Int), k ≤ sA.length ∧ i = .int .i64 k ∧ m = .int .i64 z ∧ 0 ≤ z ∧ z ≤ 1048576) (fun _ i => sA.length - (intOf i).toNat)
  case atStart => exact ⟨0, _, Nat.zero_le _, rfl, rfl, by omega, by omega⟩
  case round =>
    obtain ⟨k, z, hk, rfl, rfl, hz0, hz1⟩ := hrel
    by_cases hlt : k < sA.length
    · obtain ⟨b, off, rfl, hb, hcell, hsz⟩ := HCA.out k hlt
      generalize sA.getD k ByteArray.empty = s at hcell hsz
      go_wp2
      all_goals try (go_ret; exact ret_if _ (by simp))
      go_round
      case rel => exact ⟨k + 1, _, by omega, by go_num, rfl, by omega, by omega⟩
      case measure => simp [intOf]; omega
    · go_wp2
      all_goals try (go_ret; exact ret_if _ (by simp))
      go_loop [13, 15] (fun m i => ∃ (k : Nat) (z : Int), k ≤ sB.length ∧ i = .int .i64 k ∧ m = .int .i64 z ∧ 0 ≤ z ∧ z ≤ 1048576) (fun _ i => sB.length - (intOf i).toNat)
      case atStart => exact ⟨0, _, Nat.zero_le _, rfl, rfl, by omega, by omega⟩
      case round =>
        obtain ⟨k, z, hk, rfl, rfl, hz0, hz1⟩ := hrel
        by_cases hlt : k < sB.length
        · obtain ⟨b, off, rfl, hb, hcell, hsz⟩ := HCB.out k hlt
          generalize sB.getD k ByteArray.empty = s at hcell hsz
          go_wp2
          all_goals try (go_ret; exact ret_if _ (by simp))
          go_round
          case rel => exact ⟨k + 1, _, by omega, by go_num, rfl, by omega, by omega⟩
          case measure => simp [intOf]; omega
        · go_wp2
          all_goals try (go_ret; exact ret_if _ (by simp))
          go_loop [13, 16] (fun m i => ∃ (k : Nat) (z : Int), k ≤ sC.length ∧ i = .int .i64 k ∧ m = .int .i64 z ∧ 0 ≤ z ∧ z ≤ 1048576) (fun _ i => sC.length - (intOf i).toNat)
          case atStart => exact ⟨0, _, Nat.zero_le _, rfl, rfl, by omega, by omega⟩
          case round =>
            obtain ⟨k, z, hk, rfl, rfl, hz0, hz1⟩ := hrel
            by_cases hlt : k < sC.length
            · obtain ⟨b, off, rfl, hb, hcell, hsz⟩ := HCC.out k hlt
              generalize sC.getD k ByteArray.empty = s at hcell hsz
              go_wp2
              all_goals try (go_ret; exact ret_if _ (by simp))
              go_round
              case rel => exact ⟨k + 1, _, by omega, by go_num, rfl, by omega, by omega⟩
              case measure => simp [intOf]; omega
            · go_wp2
              all_goals try (go_ret; exact ret_if _ (by simp))
              go_loop [13, 17] (fun m i => ∃ (k : Nat) (z : Int), k ≤ sD.length ∧ i = .int .i64 k ∧ m = .int .i64 z ∧ 0 ≤ z ∧ z ≤ 1048576) (fun _ i => sD.length - (intOf i).toNat)
              case atStart => exact ⟨0, _, Nat.zero_le _, rfl, rfl, by omega, by omega⟩
              case round =>
                obtain ⟨k, z, hk, rfl, rfl, hz0, hz1⟩ := hrel
                by_cases hlt : k < sD.length
                · obtain ⟨b, off, rfl, hb, hcell, hsz⟩ := HCD.out k hlt
                  generalize sD.getD k ByteArray.empty = s at hcell hsz
                  go_wp2
                  all_goals try (go_ret; exact ret_if _ (by simp))
                  go_round
                  case rel => exact ⟨k + 1, _, by omega, by go_num, rfl, by omega, by omega⟩
                  case measure => simp [intOf]; omega
                · go_wp2
                  all_goals (go_ret; exact ret_if _ (by first | (simp; done) | (intro _; exact ⟨by omega, by omega, by omega, by omega⟩)))

end Go.Proofs.Qxb6617164a
