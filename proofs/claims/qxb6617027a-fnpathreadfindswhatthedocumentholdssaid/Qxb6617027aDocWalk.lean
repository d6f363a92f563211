/-
  Seat b6617027a: docWalk (the law's own walk over the document), sameStrings, readMatches.
-/
import Derived.Test.Qxb6617027aClone
namespace Go.Proofs.Qxb6617027a
open Go.RowKit

theorem seq_t {a b : ByteArray} (h : a = b) : (a.toList == b.toList) = true := by rw [h]; simp
theorem seq_f {a b : ByteArray} (h : ¬ a = b) : (a.toList == b.toList) = false := by
  rw [beq_eq_false_iff_ne]
  intro e
  rw [ByteArray.toList_eq, ByteArray.toList_eq] at e
  exact h (by cases a; cases b; simp only [ByteArray.mk.injEq]; exact Array.ext' e)

/-- One step of the law's walk. -/
def stepI (kt kl kn km : ByteArray) (st : Int) (k : ByteArray) : Int :=
  if st = 0 then (if k = kn then 1 else if k = kl then 3 else if k = kt then 2 else 5)
  else if st = 1 then (if k = km then 4 else 5) else 5
/-- The whole walk. -/
def walkI (kt kl kn km : ByteArray) (ks : List ByteArray) : Int := ks.foldl (stepI kt kl kn km) 0

theorem walkI_snoc (kt kl kn km : ByteArray) (ks : List ByteArray) (k : Nat) (h : k < ks.length) :
    walkI kt kl kn km (ks.take (k + 1)) = stepI kt kl kn km (walkI kt kl kn km (ks.take k)) (ks.getD k ByteArray.empty) := by
  unfold walkI
  rw [List.take_succ_eq_append_getElem h, List.foldl_append]
  simp [h]

def RetI (n : Int) (w : World) (e : Ending) (w' : World) : Prop := e = .returned (.int .i64 n) ∧ w' = w
theorem ret_i {m n : Int} (w : World) (h : m = n) : RetI n w (.returned (.int .i64 m)) w := ⟨by rw [h], rfl⟩

set_option maxHeartbeats 1000000 in
theorem docWalk_any (a : Option Addr) (ks : List ByteArray) (cap : Nat) (kt kl kn km : ByteArray) (w : World) (hs : Strs w a ks) :
    Calls Try.prog 10 #[.slice a ks.length cap, .bool true, .string kt, .string kl, .string kn, .string km] w fun e w' => RetI (walkI kt kl kn km ks) w e w' := by
  obtain ⟨hl, hc⟩ := hs
  unfold maxLen at hl hc
  have HC := (show Hid _ from hc)
  clear hc
  go_enter Try.func10, Try.ntmps10
  go_wp2
  go_loop [13, 18] (fun m i => ∃ (k : Nat), k ≤ ks.length ∧ i = .int .i64 k ∧ m = .int .i64 (walkI kt kl kn km (ks.take k))) (fun _ i => ks.length - (intOf i).toNat)
  case atStart => exact ⟨0, Nat.zero_le _, rfl, rfl⟩
  case round =>
    obtain ⟨k, hk, rfl, rfl⟩ := hrel
    obtain ⟨st, hst⟩ : ∃ st, st = walkI kt kl kn km (ks.take k) := ⟨_, rfl⟩
    rw [← hst]
    by_cases hlt : k < ks.length
    · obtain ⟨b, off, rfl, hb, hcell, hsz⟩ := HC.out k hlt
      have hsn := walkI_snoc kt kl kn km ks k hlt
      rw [← hst] at hsn
      obtain ⟨s, hs⟩ : ∃ s, s = ks.getD k ByteArray.empty := ⟨_, rfl⟩
      rw [← hs] at hsn hcell hsz
      have HS := (show Hid _ from hsn)
      clear hsn hs hst
      by_cases h0 : st = 0
      · subst h0
        by_cases h1 : s = kn
        · have e1 := seq_t h1
          have E := (show Hid _ from HS.out.trans (show stepI kt kl kn km 0 s = 1 by unfold stepI; rw [if_pos rfl, if_pos h1]))
          clear h1
          go_wp2
          go_round
          case rel => exact ⟨k + 1, by omega, by go_num, by rw [E.out]⟩
          case measure => simp [intOf]; omega
        · have e1 := seq_f h1
          by_cases h2 : s = kl
          · have e2 := seq_t h2
            have E := (show Hid _ from HS.out.trans (show stepI kt kl kn km 0 s = 3 by unfold stepI; rw [if_pos rfl, if_neg h1, if_pos h2]))
            clear h1 h2
            go_wp2
            go_round
            case rel => exact ⟨k + 1, by omega, by go_num, by rw [E.out]⟩
            case measure => simp [intOf]; omega
          · have e2 := seq_f h2
            by_cases h3 : s = kt
            · have e3 := seq_t h3
              have E := (show Hid _ from HS.out.trans (show stepI kt kl kn km 0 s = 2 by unfold stepI; rw [if_pos rfl, if_neg h1, if_neg h2, if_pos h3]))
              clear h1 h2 h3
              go_wp2
              go_round
              case rel => exact ⟨k + 1, by omega, by go_num, by rw [E.out]⟩
              case measure => simp [intOf]; omega
            · have e3 := seq_f h3
              have E := (show Hid _ from HS.out.trans (show stepI kt kl kn km 0 s = 5 by unfold stepI; rw [if_pos rfl, if_neg h1, if_neg h2, if_neg h3]))
              clear h1 h2 h3
              go_wp2
              go_round
              case rel => exact ⟨k + 1, by omega, by go_num, by rw [E.out]⟩
              case measure => simp [intOf]; omega
      · by_cases h1 : st = 1
        · subst h1
          by_cases h2 : s = km
          · have e2 := seq_t h2
            have E := (show Hid _ from HS.out.trans (show stepI kt kl kn km 1 s = 4 by unfold stepI; rw [if_neg (by omega), if_pos rfl, if_pos h2]))
            clear h2
            go_wp2
            go_round
            case rel => exact ⟨k + 1, by omega, by go_num, by rw [E.out]⟩
            case measure => simp [intOf]; omega
          · have e2 := seq_f h2
            have E := (show Hid _ from HS.out.trans (show stepI kt kl kn km 1 s = 5 by unfold stepI; rw [if_neg (by omega), if_pos rfl, if_neg h2]))
            clear h2
            go_wp2
            go_round
            case rel => exact ⟨k + 1, by omega, by go_num, by rw [E.out]⟩
            case measure => simp [intOf]; omega
        · have e0 : (st == 0) = false := by simp [h0]
          have e1 : (st == 1) = false := by simp [h1]
          have E := (show Hid _ from HS.out.trans (show stepI kt kl kn km st s = 5 by unfold stepI; rw [if_neg h0, if_neg h1]))
          clear h0 h1
          go_wp2
          go_round
          case rel => exact ⟨k + 1, by omega, by go_num, by rw [E.out]⟩
          case measure => simp [intOf]; omega
    · have E := (show Hid _ from hst.trans (show walkI kt kl kn km (ks.take k) = walkI kt kl kn km ks by rw [List.take_of_length_le (by omega)]))
      clear hst
      go_wp2
      go_ret
      exact ret_i _ E.out

end Go.Proofs.Qxb6617027a
