/-
  Seat b6617027a: the leaf functions' contracts: addBytes, stringsBytes.
-/
import Derived.Test.Qxb6617027aRows
import Derived.WalkKit
import Derived.WalkSpells
import Derived.WalkLawsBesides
import Derived.Deep.QuietTactic
import Derived.BigQuiet
namespace Go.Proofs.Qxb6617027a
open Go.RowKit

set_option maxHeartbeats 400000 in
theorem addBytes_any (n k : Int) (w : World) (h0 : 0 ≤ n) (h1 : n ≤ 1048577) (h2 : 0 ≤ k) (h3 : k ≤ 9223372036854775807) :
    Calls Try.prog 6 #[.int .i64 n, .int .i64 k, .int .i64 1048576] w fun e w' => (∃ r : Int, e = .returned (.int .i64 r) ∧ 0 ≤ r ∧ r ≤ 1048577) ∧ w' = w := by
  by_cases hn : 1048576 < n
  · go_enter Try.func6, Try.ntmps6
    go_wp2
    go_ret
    exact ⟨⟨_, rfl, by omega, by omega⟩, rfl⟩
  · by_cases hk : 1048576 - n < k
    · go_enter Try.func6, Try.ntmps6
      go_wp2
      go_ret
      exact ⟨⟨_, rfl, by omega, by omega⟩, rfl⟩
    · go_enter Try.func6, Try.ntmps6
      go_wp2
      go_ret
      exact ⟨⟨_, rfl, by omega, by omega⟩, rfl⟩


/-- A slice of strings as it lies in memory: its elements are 'ss' (nothing is said of its spare room). -/
def Strs (w : World) (a : Option Addr) (ss : List ByteArray) : Prop :=
  ss.length ≤ maxLen ∧ ∀ k, k < ss.length → ∃ b off, a = some ⟨b, off, none⟩ ∧ b < w.heap.size ∧ w.cell? ⟨b, off + k, none⟩ = some (.string (ss.getD k ByteArray.empty)) ∧ (ss.getD k ByteArray.empty).size ≤ maxLen

set_option maxHeartbeats 400000 in
theorem stringsBytes_any (a : Option Addr) (ss : List ByteArray) (cap : Nat) (n : Int) (w : World) (hs : Strs w a ss) (h0 : 0 ≤ n) (h1 : n ≤ 1048577) :
    Calls Try.prog 5 #[.slice a ss.length cap, .int .i64 n, .int .i64 1048576] w fun e w' => (∃ r : Int, e = .returned (.int .i64 r) ∧ 0 ≤ r ∧ r ≤ 1048577) ∧ w' = w := by
  obtain ⟨hl, hc⟩ := hs
  unfold maxLen at hl hc
  have HC := (show Hid _ from hc)
  clear hc
  go_enter Try.func5, Try.ntmps5
  go_wp2
  go_loop [1, 11] (fun m i => ∃ (k : Nat) (z : Int), k ≤ ss.length ∧ i = .int .i64 k ∧ m = .int .i64 z ∧ 0 ≤ z ∧ z ≤ 1048577) (fun _ i => ss.length - (intOf i).toNat)
  case atStart => exact ⟨0, n, Nat.zero_le _, rfl, rfl, h0, h1⟩
  case round =>
    obtain ⟨k, z, hk, rfl, rfl, hz0, hz1⟩ := hrel
    by_cases hlt : k < ss.length
    · obtain ⟨b, off, rfl, hb, hcell, hsz⟩ := HC.out k hlt
      generalize ss.getD k ByteArray.empty = s at hcell hsz
      go_wp2_with (go_at_call 6; refine (addBytes_any _ _ _ (by omega) (by omega) (by omega) (by omega)).mono ?_; rintro e w' ⟨⟨r, rfl, hr0, hr1⟩, rfl⟩)
      · go_ret
        exact ⟨⟨_, rfl, by omega, by omega⟩, rfl⟩
      · go_round
        case rel => exact ⟨k + 1, _, by omega, by go_num, rfl, by omega, by omega⟩
        case measure => simp [intOf]; omega
    · go_wp2
      go_ret
      exact ⟨⟨_, rfl, by omega, by omega⟩, rfl⟩

end Go.Proofs.Qxb6617027a
