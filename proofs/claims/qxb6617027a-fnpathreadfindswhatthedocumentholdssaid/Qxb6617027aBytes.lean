/-
  Seat b6617027a: the byte bound laid by program (zzBytes_..): it answers a bool; where it answers true both slices hold at most 1<<20 strings.
-/
import Derived.Test.Qxb6617027aLeafs
namespace Go.Proofs.Qxb6617027a
open Go.RowKit

/-- It hands back a bool; where that is true, P; the world stands. -/
def RetB (P : Prop) (w : World) (e : Ending) (w' : World) : Prop := (∃ b : Bool, e = .returned (.bool b) ∧ (b = true → P)) ∧ w' = w
theorem ret_b {r : Bool} {P : Prop} (w : World) (h : r = true → P) : RetB P w (.returned (.bool r)) w := ⟨⟨r, rfl, h⟩, rfl⟩

set_option maxHeartbeats 1000000 in
theorem zzBytes_any (a0 : Option Addr) (s0 : List ByteArray) (c0 : Nat) (asker : Bool) (pkind ikind : ByteArray) (ta : Int) (kt t kl : ByteArray) (a8 : Option Addr) (s8 : List ByteArray) (c8 : Nat) (kn km t2 : ByteArray) (w : World)
    (hs0 : Strs w a0 s0) (hs8 : Strs w a8 s8) (w2 : pkind.size ≤ maxLen) (w3 : ikind.size ≤ maxLen) (w5 : kt.size ≤ maxLen) (w6 : t.size ≤ maxLen) (w7 : kl.size ≤ maxLen) (w9 : kn.size ≤ maxLen) (w10 : km.size ≤ maxLen) (w11 : t2.size ≤ maxLen) :
    Calls Try.prog 4 #[.slice a0 s0.length c0, .bool asker, .string pkind, .string ikind, .int .i64 ta, .string kt, .string t, .string kl, .slice a8 s8.length c8, .string kn, .string km, .string t2] w
      fun e w' => RetB (s0.length ≤ 1048576 ∧ s8.length ≤ 1048576) w e w' := by
  obtain ⟨hl0, hc0⟩ := hs0
  obtain ⟨hl8, hc8⟩ := hs8
  unfold maxLen at *
  have HC0 := (show Hid _ from hc0)
  have HC8 := (show Hid _ from hc8)
  clear hc0 hc8
  go_enter Try.func4, Try.ntmps4
  go_wp2
  all_goals try (go_ret; exact ret_b _ (by simp))
  go_loop [25, 26] (fun m i => ∃ (k : Nat) (z : Int), k ≤ s0.length ∧ i = .int .i64 k ∧ m = .int .i64 z ∧ 0 ≤ z ∧ z ≤ 1048576) (fun _ i => s0.length - (intOf i).toNat)
  case atStart => exact ⟨0, _, Nat.zero_le _, rfl, rfl, by omega, by omega⟩
  case round =>
    obtain ⟨k, z, hk, rfl, rfl, hz0, hz1⟩ := hrel
    by_cases hlt : k < s0.length
    · obtain ⟨b, off, rfl, hb, hcell, hsz⟩ := HC0.out k hlt
      generalize s0.getD k ByteArray.empty = s at hcell hsz
      go_wp2
      all_goals try (go_ret; exact ret_b _ (by simp))
      go_round
      case rel => exact ⟨k + 1, _, by omega, by go_num, rfl, by omega, by omega⟩
      case measure => simp [intOf]; omega
    · go_wp2
      all_goals try (go_ret; exact ret_b _ (by simp))
      go_loop [25, 27] (fun m i => ∃ (k : Nat) (z : Int), k ≤ s8.length ∧ i = .int .i64 k ∧ m = .int .i64 z ∧ 0 ≤ z ∧ z ≤ 1048576) (fun _ i => s8.length - (intOf i).toNat)
      case atStart => exact ⟨0, _, Nat.zero_le _, rfl, rfl, by omega, by omega⟩
      case round =>
        obtain ⟨k, z, hk, rfl, rfl, hz0, hz1⟩ := hrel
        by_cases hlt : k < s8.length
        · obtain ⟨b, off, rfl, hb, hcell, hsz⟩ := HC8.out k hlt
          generalize s8.getD k ByteArray.empty = s at hcell hsz
          go_wp2
          all_goals try (go_ret; exact ret_b _ (by simp))
          go_round
          case rel => exact ⟨k + 1, _, by omega, by go_num, rfl, by omega, by omega⟩
          case measure => simp [intOf]; omega
        · go_wp2
          all_goals (go_ret; exact ret_b _ (by first | (simp; done) | (intro _; exact ⟨by omega, by omega⟩)))

end Go.Proofs.Qxb6617027a
