/-
  Seat b6617027a: cloneStrings: nil stays nil; else a new array that holds the same strings.
-/
import Derived.Test.Qxb6617027aLeafs
namespace Go.Proofs.Qxb6617027a
open Go.RowKit

theorem Strs.below {w w' : World} {a : Option Addr} {ss : List ByteArray} (h : Strs w a ss) (hb : Below w.heap.size w w') : Strs w' a ss := by
  refine ⟨h.1, fun k hk => ?_⟩
  obtain ⟨b, off, ha, hlt, hc, hsz⟩ := h.2 k hk
  exact ⟨b, off, ha, Nat.lt_of_lt_of_le hlt hb.size, (hb.cell (p := ⟨b, off + k, none⟩) hlt).trans hc, hsz⟩

/-- What cloneStrings hands back. -/
def CloneP (a : Option Addr) (ss : List ByteArray) (w : World) (e : Ending) (w' : World) : Prop :=
  ∃ a' c', e = .returned (.slice a' ss.length c') ∧ (a' = none ↔ a = none) ∧ ss.length ≤ c' ∧ Strs w' a' ss ∧ Below w.heap.size w w'

theorem Try.info9 : (Try.prog.info? 9).map (fun i => (i.zero, i.size, i.bytes)) = some (some (.string ⟨#[]⟩), 1, 16) := by kernel_rfl

/-- What is written so far. -/
def Filled (ss : List ByteArray) (k : Nat) (xs : List Value) : Prop := ∀ j, j < k → xs[j]? = some (.string (ss.getD j ByteArray.empty))

theorem Filled.set {ss : List ByteArray} {k : Nat} {xs : List Value} (h : Filled ss k xs) (hk : k < xs.length) : Filled ss (k + 1) (xs.set k (.string (ss.getD k ByteArray.empty))) := by
  intro j hj
  rw [List.getElem?_set]
  by_cases e : k = j
  · subst e; rw [if_pos rfl, if_pos hk]
  · rw [if_neg e]; exact h j (by omega)

theorem Filled.strs {ss : List ByteArray} {xs : List Value} {w : World} {base g cap : Nat} (h : Filled ss ss.length xs) (hl : ss.length ≤ maxLen) (hsz : ∀ k, k < ss.length → (ss.getD k ByteArray.empty).size ≤ maxLen)
    (ho : w.ownsRow base 9 1 (.slice (some ⟨g, 0, none⟩) ss.length cap) ss.length xs) (hg : g < w.heap.size) : Strs w (some ⟨g, 0, none⟩) ss := by
  refine ⟨hl, fun k hk => ⟨g, 0, rfl, hg, ?_, hsz k hk⟩⟩
  rw [Nat.zero_add, ho.cellAt k (by omega), h k hk]

set_option maxHeartbeats 400000 in
theorem cloneStrings_nil (cap : Nat) (w : World) : Calls Try.prog 7 #[.slice none 0 cap] w fun e w' => CloneP none [] w e w' := by
  have he := fun w => Lib.run_eql_slice_nil (P := Try.prog) w 22 9 none 0 cap 0 0 Try.underlying22
  go_enter Try.func7, Try.ntmps7
  go_wp2
  go_ret
  exact ⟨none, 0, rfl, Iff.rfl, Nat.zero_le _, ⟨Nat.zero_le _, fun k hk => by simp at hk⟩, Below.refl _ _⟩

set_option maxHeartbeats 400000 in
theorem cloneStrings_some (x : Addr) (ss : List ByteArray) (cap : Nat) (w : World) (hs : Strs w (some x) ss) (hle : ss.length ≤ 1048576) :
    Calls Try.prog 7 #[.slice (some x) ss.length cap] w fun e w' => CloneP (some x) ss w e w' := by
  obtain ⟨hl, hc⟩ := hs
  have HL := (show Hid _ from hl)
  have HC := (show Hid _ from hc)
  clear hc hl
  have he := fun w => Lib.run_eql_slice_nil (P := Try.prog) w 22 9 (some x) ss.length cap 0 0 Try.underlying22
  obtain ⟨i0, hi, hz0, hz1, hz2⟩ := info_parts Try.info9
  go_enter Try.func7, Try.ntmps7
  go_wp2_with (at_make; refine wpList_make_full _ rfl _ _ 22 rfl w.heap.size 9 i0 (.string ⟨#[]⟩) 1 Try.underlying22 hi hz0 hz1 .i64 .i64 _ _ ss.length rfl rfl rfl rfl (by rw [hz2]; omega) (by unfold maxLen; omega) (Nat.le_refl _) ?_; intro w1 hown hgrow)
  go_loopw [4] (fun i wr => ∃ (k : Nat) (xs : List Value), k ≤ ss.length ∧ i = .int .i64 k ∧ wr.ownsRow w.heap.size 9 1 (.slice (some ⟨w.heap.size, 0, none⟩) ss.length ss.length) ss.length xs ∧ Filled ss k xs ∧ Below w.heap.size w wr) (fun i _ => ss.length - (intOf i).toNat)
  case atStart => exact ⟨0, _, Nat.zero_le _, rfl, hown, fun j hj => by omega, (Below.refl _ _).grown hgrow (Nat.le_refl _) (fun k hk => by simp at hk)⟩
  case round =>
    obtain ⟨k, xs, hk, rfl, hrow, hfil, hbel⟩ := hrel
    by_cases hlt : k < ss.length
    · obtain ⟨b, off, hx, hb, hcell, hsz⟩ := HC.out k hlt
      obtain rfl : x = ⟨b, off, none⟩ := by simpa using hx
      have hfs := hfil.set (by have := hrow.1; omega)
      obtain ⟨hrow2, hgr2⟩ := hrow.stored k (.string (ss.getD k ByteArray.empty))
      have HF := (show Hid _ from And.intro hfs (And.intro hrow2 hgr2))
      have hcell2 : wr.cell? ⟨b, off + k, none⟩ = some (.string (ss.getD k ByteArray.empty)) := (hbel.cell (p := ⟨b, off + k, none⟩) hb).trans hcell
      obtain ⟨u, hu⟩ : ∃ u, wr.cell? ⟨w.heap.size, k, none⟩ = some u := by
        rw [hrow.cellAt k (by omega)]
        exact ⟨_, List.getElem?_eq_getElem (by have := hrow.1; omega)⟩
      have hfr := hrow.frozenAt k
      clear hfs hrow2 hgr2 hcell hx
      have HB := (show Hid _ from And.intro hbel (And.intro hrow hfil))
      clear hbel hrow hfil
      generalize ss.getD k ByteArray.empty = s at *
      go_wp2
      go_roundw
      case rel => exact ⟨k + 1, _, by omega, by go_num, HF.out.2.1, HF.out.1, HB.out.1.setCell (Nat.le_refl _) _⟩
      case measure => simp [intOf]; omega
    · have hkk : k = ss.length := by omega
      have HB := (show Hid _ from And.intro hbel (And.intro hrow hfil))
      have HK := (show Hid _ from hkk)
      have hgsz : w.heap.size < wr.heap.size := by
        rcases hrow.2 with ⟨h', _⟩ | ⟨g', cap', cur, h', _, hg, _⟩
        · simp at h'
        · simp only [Value.slice.injEq, Option.some.injEq, Addr.mk.injEq, and_true, true_and] at h'
          obtain ⟨rfl, rfl⟩ := h'
          exact (Array.getElem?_eq_some_iff.1 hg).1
      clear hbel hrow hfil hkk
      go_wp2
      go_ret
      refine ⟨_, _, rfl, by simp, Nat.le_refl _, Filled.strs (HK.out ▸ HB.out.2.2) HL.out (fun j hj => ?_) HB.out.2.1 hgsz, HB.out.1⟩
      obtain ⟨_, _, _, _, _, h⟩ := HC.out j hj
      exact h

theorem cloneStrings_any (a : Option Addr) (ss : List ByteArray) (cap : Nat) (w : World) (hs : Strs w a ss) (hle : ss.length ≤ 1048576) :
    Calls Try.prog 7 #[.slice a ss.length cap] w fun e w' => CloneP a ss w e w' := by
  cases a with
  | some x => exact cloneStrings_some x ss cap w hs hle
  | none =>
    cases ss with
    | nil => exact cloneStrings_nil cap w
    | cons s r =>
      obtain ⟨_, _, h, _⟩ := hs.2 0 (by simp)
      cases h

end Go.Proofs.Qxb6617027a
