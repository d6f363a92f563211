/-
  Seat b6617027a: sameStrings and readMatches, where they answer true.
-/
import Derived.Test.Qxb6617027aDocWalk
import Derived.WalkSmall
namespace Go.Proofs.Qxb6617027a
open Go.RowKit

/-- It hands back true; nothing that was there has turned. -/
def Yes (w : World) (e : Ending) (w' : World) : Prop := e = .returned (.bool true) ∧ Below w.heap.size w w'

set_option maxHeartbeats 400000 in
theorem sameStrings_nil (c c' : Nat) (w : World) : Calls Try.prog 13 #[.slice none 0 c, .slice none 0 c'] w fun e w' => Yes w e w' := by
  have he := fun w c => Lib.run_eql_slice_nil (P := Try.prog) w 22 9 none 0 c 0 0 Try.underlying22
  go_enter Try.func13, Try.ntmps13
  go_wp2
  refine wp_loop_rounds 1 ?_
  rw [rounds_succ]
  go_wp2
  go_ret
  exact ⟨rfl, Below.refl _ _⟩

set_option maxHeartbeats 400000 in
theorem sameStrings_some (x y : Addr) (ss : List ByteArray) (c c' : Nat) (w : World) (hs : Strs w (some x) ss) (ht : Strs w (some y) ss) :
    Calls Try.prog 13 #[.slice (some x) ss.length c, .slice (some y) ss.length c'] w fun e w' => Yes w e w' := by
  obtain ⟨hl, hc⟩ := hs
  obtain ⟨_, hd⟩ := ht
  unfold maxLen at hl
  have HC := (show Hid _ from hc)
  have HD := (show Hid _ from hd)
  clear hc hd
  have he := fun w c => Lib.run_eql_slice_nil (P := Try.prog) w 22 9 (some x) ss.length c 0 0 Try.underlying22
  have he' := fun w c => Lib.run_eql_slice_nil (P := Try.prog) w 22 9 (some y) ss.length c 0 0 Try.underlying22
  go_enter Try.func13, Try.ntmps13
  go_wp2
  go_loopw [5] (fun i wr => ∃ (k : Nat), k ≤ ss.length ∧ i = .int .i64 k ∧ Below w.heap.size w wr) (fun i _ => ss.length - (intOf i).toNat)
  case atStart => exact ⟨0, Nat.zero_le _, rfl, Below.refl _ _⟩
  case round =>
    obtain ⟨k, hk, rfl, hbel⟩ := hrel
    by_cases hlt : k < ss.length
    · obtain ⟨b, off, hx, hb, hcell, _⟩ := HC.out k hlt
      obtain rfl : x = ⟨b, off, none⟩ := by simpa using hx
      obtain ⟨b', off', hy, hb', hcell', _⟩ := HD.out k hlt
      obtain rfl : y = ⟨b', off', none⟩ := by simpa using hy
      have h1 : wr.cell? ⟨b, off + k, none⟩ = some (.string (ss.getD k ByteArray.empty)) := (hbel.cell (p := ⟨b, off + k, none⟩) hb).trans hcell
      have h2 : wr.cell? ⟨b', off' + k, none⟩ = some (.string (ss.getD k ByteArray.empty)) := (hbel.cell (p := ⟨b', off' + k, none⟩) hb').trans hcell'
      have hki : (k : Int) < (ss.length : Int) := by omega
      clear hcell hcell' hx hy
      have HB := (show Hid _ from hbel)
      clear hbel
      generalize ss.getD k ByteArray.empty = s at *
      go_wp2
      go_quiet (fail)
      go_wp2
      go_roundw
      case rel => exact ⟨k + 1, by omega, by go_num, below_drewN HB.out _⟩
      case measure => simp [intOf]; omega
    · have HB := (show Hid _ from hbel)
      clear hbel
      go_wp2
      go_ret
      exact ⟨rfl, HB.out⟩

theorem sameStrings_any (a a' : Option Addr) (ss : List ByteArray) (c c' : Nat) (w : World) (hs : Strs w a ss) (ht : Strs w a' ss) (hn : a' = none ↔ a = none) :
    Calls Try.prog 13 #[.slice a ss.length c, .slice a' ss.length c'] w fun e w' => Yes w e w' := by
  cases a with
  | some x =>
    cases a' with
    | some y => exact sameStrings_some x y ss c c' w hs ht
    | none => exact absurd (hn.1 rfl) (by simp)
  | none =>
    obtain rfl := hn.2 rfl
    cases ss with
    | nil => exact sameStrings_nil c c' w
    | cons s r =>
      obtain ⟨_, _, h, _⟩ := hs.2 0 (by simp)
      cases h

/-- What a read must give: the text and the list that the law's walk finds, typed as asked. -/
def Fits (st ta : Int) (t t2 : ByteArray) (al : Option Addr) (sl : List ByteArray) (gt : ByteArray) (ag : Option Addr) (lg : Nat) (w : World) : Prop :=
  (ta = 1 → gt = ByteArray.empty ∧ (st = 3 → lg = sl.length ∧ Strs w ag sl ∧ (al = none ↔ ag = none)) ∧ (st ≠ 3 → ag = none ∧ lg = 0)) ∧
  (ta ≠ 1 → ag = none ∧ gt = (if st = 2 then t else if st = 4 then t2 else ByteArray.empty))

set_option maxHeartbeats 1000000 in
theorem readMatches_any (st ta : Int) (t t2 : ByteArray) (al : Option Addr) (sl : List ByteArray) (cl : Nat) (gt : ByteArray) (ag : Option Addr) (lg cg : Nat) (w : World) (hs : Strs w al sl)
    (hf : Fits st ta t t2 al sl gt ag lg w) :
    Calls Try.prog 11 #[.int .i64 st, .int .i64 ta, .string t, .slice al sl.length cl, .string t2, .string gt, .slice ag lg cg] w fun e w' => Yes w e w' := by
  have he := fun w a n c => Lib.run_eql_slice_nil (P := Try.prog) w 22 9 a n c 0 0 Try.underlying22
  have hn := fun w a n c => run_neq_slice_nil_any (P := Try.prog) w 22 9 a n c 0 0 Try.underlying22
  by_cases h1 : ta = 1
  · obtain ⟨rfl, h3, h4⟩ := hf.1 h1
    subst h1
    have HF := (show Hid _ from hf)
    clear hf
    by_cases hst : st = 3
    · obtain ⟨rfl, hsg, hnn⟩ := h3 hst
      subst hst
      have HS := (show Hid _ from And.intro hs (And.intro hsg hnn))
      clear h3 h4 hs hsg hnn
      go_enter Try.func11, Try.ntmps11
      go_wp2_with (go_at_call 13; refine (sameStrings_any _ _ sl _ _ _ HS.out.2.1 HS.out.1 HS.out.2.2).mono ?_; rintro e w' ⟨rfl, hb⟩)
      go_ret
      exact ⟨rfl, by assumption⟩
    · obtain ⟨rfl, rfl⟩ := h4 hst
      have e3 : (st == 3) = false := by simp [hst]
      clear h3 h4 hs hst
      go_enter Try.func11, Try.ntmps11
      go_wp2
      go_ret
      exact ⟨rfl, Below.refl _ _⟩
  · obtain ⟨rfl, hgt⟩ := hf.2 h1
    have e1 : (ta == 1) = false := by simp [h1]
    clear hf hs h1
    by_cases h2 : st = 2
    · subst h2
      rw [if_pos rfl] at hgt
      subst hgt
      go_enter Try.func11, Try.ntmps11
      go_wp2
      go_ret
      exact ⟨rfl, Below.refl _ _⟩
    · rw [if_neg h2] at hgt
      have e2 : (st == 2) = false := by simp [h2]
      by_cases h4 : st = 4
      · subst h4
        rw [if_pos rfl] at hgt
        subst hgt
        clear h2 e2
        go_enter Try.func11, Try.ntmps11
        go_wp2
        go_ret
        exact ⟨rfl, Below.refl _ _⟩
      · rw [if_neg h4] at hgt
        subst hgt
        have e4 : (st == 4) = false := by simp [h4]
        clear h2 h4
        go_enter Try.func11, Try.ntmps11
        go_wp2
        go_ret
        exact ⟨rfl, Below.refl _ _⟩

end Go.Proofs.Qxb6617027a
