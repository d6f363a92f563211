/-
  Seat b6617303a: slices of strings; cloneStrings, the byte bounds, unionTooBig, sameNames, linearHas.
-/
import Derived.Test.Qxb6617303aRows
import Derived.WalkKit
import Derived.WalkSpells
import Derived.WalkLawsBesides
import Derived.WalkSmall
import Derived.Deep.QuietTactic
import Derived.BigQuiet
namespace Go.Proofs.Qxb6617303a
open Go.RowKit

/-- A slice of strings as it lies in memory: its elements are 'ss' (nothing is said of its spare room). -/
def Strs (w : World) (a : Option Addr) (ss : List ByteArray) : Prop :=
  ss.length ≤ maxLen ∧ ∀ k, k < ss.length → ∃ b off, a = some ⟨b, off, none⟩ ∧ b < w.heap.size ∧ w.cell? ⟨b, off + k, none⟩ = some (.string (ss.getD k ByteArray.empty)) ∧ (ss.getD k ByteArray.empty).size ≤ maxLen

theorem Strs.below {w w' : World} {a : Option Addr} {ss : List ByteArray} (h : Strs w a ss) (hb : Below w.heap.size w w') : Strs w' a ss := by
  refine ⟨h.1, fun k hk => ?_⟩
  obtain ⟨b, off, ha, hlt, hc, hsz⟩ := h.2 k hk
  exact ⟨b, off, ha, Nat.lt_of_lt_of_le hlt hb.size, (hb.cell (p := ⟨b, off + k, none⟩) hlt).trans hc, hsz⟩

theorem Strs.nil (w : World) (a : Option Addr) : Strs w a [] := ⟨Nat.zero_le _, fun k hk => by simp at hk⟩

/-- It hands back a bool; where that is true, P; the world stands. -/
def RetIf (P : Prop) (w : World) (e : Ending) (w' : World) : Prop := (∃ b : Bool, e = .returned (.bool b) ∧ (b = true → P)) ∧ w' = w
theorem ret_if {r : Bool} {P : Prop} (w : World) (h : r = true → P) : RetIf P w (.returned (.bool r)) w := ⟨⟨r, rfl, h⟩, rfl⟩
def RetUnless (P : Prop) (w : World) (e : Ending) (w' : World) : Prop := (∃ b : Bool, e = .returned (.bool b) ∧ (b = false → P)) ∧ w' = w
theorem ret_unless {r : Bool} {P : Prop} (w : World) (h : r = false → P) : RetUnless P w (.returned (.bool r)) w := ⟨⟨r, rfl, h⟩, rfl⟩

theorem Below.next {w w1 w2 : World} (h : Below w.heap.size w w1) (k : Below w1.heap.size w1 w2) : Below w.heap.size w w2 := h.trans (k.mono h.size)
theorem Below.new {w w1 : World} (h : Below w.heap.size w w1) (o : Obj) : Below w.heap.size w (w1.alloc o) := h.alloc h.size o

theorem seq_t {a b : ByteArray} (h : a = b) : (a.toList == b.toList) = true := by rw [h]; simp
theorem seq_f {a b : ByteArray} (h : ¬ a = b) : (a.toList == b.toList) = false := by
  rw [beq_eq_false_iff_ne]
  intro e
  rw [ByteArray.toList_eq, ByteArray.toList_eq] at e
  exact h (by cases a; cases b; simp only [ByteArray.mk.injEq]; exact Array.ext' e)

/-- What cloneStrings hands back. -/
def CloneP (a : Option Addr) (ss : List ByteArray) (w : World) (e : Ending) (w' : World) : Prop :=
  ∃ a' c', e = .returned (.slice a' ss.length c') ∧ (a' = none ↔ a = none) ∧ ss.length ≤ c' ∧ Strs w' a' ss ∧ Below w.heap.size w w'

theorem Try.info9 : (Try.prog.info? 9).map (fun i => (i.zero, i.size, i.bytes)) = some (some (.string ⟨#[]⟩), 1, 16) := by kernel_rfl

/-- What is written so far. -/
def Filled (ss : List ByteArray) (k : Nat) (xs : List Value) : Prop := ∀ j, j < k → xs[j]? = some (.string (ss.getD j ByteArray.empty))

theorem Filled.set {ss : List ByteArray} {k : Nat} {xs : List Value} (h : Filled ss k xs) (hk : k < xs.length) : Filled ss (k + 1) (xs.set k (.string (ss.getD k ByteArray.empty))) := by
  intro j hj
  rw [List.getElem?_set]
  by_cases e : k = j
  · subst e; rw [if_pos rfl, if_pos hk]
  · rw [if_neg e]; exact h j (by omega)

theorem Filled.strs {ss : List ByteArray} {xs : List Value} {w : World} {base g cap : Nat} (h : Filled ss ss.length xs) (hl : ss.length ≤ maxLen) (hsz : ∀ k, k < ss.length → (ss.getD k ByteArray.empty).size ≤ maxLen)
    (ho : w.ownsRow base 9 1 (.slice (some ⟨g, 0, none⟩) ss.length cap) ss.length xs) (hg : g < w.heap.size) : Strs w (some ⟨g, 0, none⟩) ss := by
  refine ⟨hl, fun k hk => ⟨g, 0, rfl, hg, ?_, hsz k hk⟩⟩
  rw [Nat.zero_add, ho.cellAt k (by omega), h k hk]

set_option maxHeartbeats 400000 in
theorem cloneStrings_nil (cap : Nat) (w : World) : Calls Try.prog 7 #[.slice none 0 cap] w fun e w' => CloneP none [] w e w' := by
  have he := fun w => Lib.run_eql_slice_nil (P := Try.prog) w 22 9 none 0 cap 0 0 Try.underlying22
  go_enter Try.func7, Try.ntmps7
  go_wp2
  go_ret
  exact ⟨none, 0, rfl, Iff.rfl, Nat.zero_le _, ⟨Nat.zero_le _, fun k hk => by simp at hk⟩, Below.refl _ _⟩

set_option maxHeartbeats 400000 in
theorem cloneStrings_some (x : Addr) (ss : List ByteArray) (cap : Nat) (w : World) (hs : Strs w (some x) ss) (hle : ss.length ≤ 1048576) :
    Calls Try.prog 7 #[.slice (some x) ss.length cap] w fun e w' => CloneP (some x) ss w e w' := by
  obtain ⟨hl, hc⟩ := hs
  have HL := (show Hid _ from hl)
  have HC := (show Hid _ from hc)
  clear hc hl
  have he := fun w => Lib.run_eql_slice_nil (P := Try.prog) w 22 9 (some x) ss.length cap 0 0 Try.underlying22
  obtain ⟨i0, hi, hz0, hz1, hz2⟩ := info_parts Try.info9
  go_enter Try.func7, Try.ntmps7
  go_wp2_with (at_make; refine wpList_make_full _ rfl _ _ 22 rfl w.heap.size 9 i0 (.string ⟨#[]⟩) 1 Try.underlying22 hi hz0 hz1 .i64 .i64 _ _ ss.length rfl rfl rfl rfl (by rw [hz2]; omega) (by unfold maxLen; omega) (Nat.le_refl _) ?_; intro w1 hown hgrow)
  go_loopw [4] (fun i wr => ∃ (k : Nat) (xs : List Value), k ≤ ss.length ∧ i = .int .i64 k ∧ wr.ownsRow w.heap.size 9 1 (.slice (some ⟨w.heap.size, 0, none⟩) ss.length ss.length) ss.length xs ∧ Filled ss k xs ∧ Below w.heap.size w wr) (fun i _ => ss.length - (intOf i).toNat)
  case atStart => exact ⟨0, _, Nat.zero_le _, rfl, hown, fun j hj => by omega, (Below.refl _ _).grown hgrow (Nat.le_refl _) (fun k hk => by simp at hk)⟩
  case round =>
    obtain ⟨k, xs, hk, rfl, hrow, hfil, hbel⟩ := hrel
    by_cases hlt : k < ss.length
    · obtain ⟨b, off, hx, hb, hcell, hsz⟩ := HC.out k hlt
      obtain rfl : x = ⟨b, off, none⟩ := by simpa using hx
      have hfs := hfil.set (by have := hrow.1; omega)
      obtain ⟨hrow2, hgr2⟩ := hrow.stored k (.string (ss.getD k ByteArray.empty))
      have HF := (show Hid _ from And.intro hfs (And.intro hrow2 hgr2))
      have hcell2 : wr.cell? ⟨b, off + k, none⟩ = some (.string (ss.getD k ByteArray.empty)) := (hbel.cell (p := ⟨b, off + k, none⟩) hb).trans hcell
      obtain ⟨u, hu⟩ : ∃ u, wr.cell? ⟨w.heap.size, k, none⟩ = some u := by
        rw [hrow.cellAt k (by omega)]
        exact ⟨_, List.getElem?_eq_getElem (by have := hrow.1; omega)⟩
      have hfr := hrow.frozenAt k
      clear hfs hrow2 hgr2 hcell hx
      have HB := (show Hid _ from And.intro hbel (And.intro hrow hfil))
      clear hbel hrow hfil
      generalize ss.getD k ByteArray.empty = s at *
      go_wp2
      go_roundw
      case rel => exact ⟨k + 1, _, by omega, by go_num, HF.out.2.1, HF.out.1, HB.out.1.setCell (Nat.le_refl _) _⟩
      case measure => simp [intOf]; omega
    · have hkk : k = ss.length := by omega
      have HB := (show Hid _ from And.intro hbel (And.intro hrow hfil))
      have HK := (show Hid _ from hkk)
      have hgsz : w.heap.size < wr.heap.size := by
        rcases hrow.2 with ⟨h', _⟩ | ⟨g', cap', cur, h', _, hg, _⟩
        · simp at h'
        · simp only [Value.slice.injEq, Option.some.injEq, Addr.mk.injEq, and_true, true_and] at h'
          obtain ⟨rfl, rfl⟩ := h'
          exact (Array.getElem?_eq_some_iff.1 hg).1
      clear hbel hrow hfil hkk
      go_wp2
      go_ret
      refine ⟨_, _, rfl, by simp, Nat.le_refl _, Filled.strs (HK.out ▸ HB.out.2.2) HL.out (fun j hj => ?_) HB.out.2.1 hgsz, HB.out.1⟩
      obtain ⟨_, _, _, _, _, h⟩ := HC.out j hj
      exact h

theorem cloneStrings_any (a : Option Addr) (ss : List ByteArray) (cap : Nat) (w : World) (hs : Strs w a ss) (hle : ss.length ≤ 1048576) :
    Calls Try.prog 7 #[.slice a ss.length cap] w fun e w' => CloneP a ss w e w' := by
  cases a with
  | some x => exact cloneStrings_some x ss cap w hs hle
  | none =>
    cases ss with
    | nil => exact cloneStrings_nil cap w
    | cons s r =>
      obtain ⟨_, _, h, _⟩ := hs.2 0 (by simp)
      cases h

set_option maxHeartbeats 2000000 in
theorem zzBytes5_any (sAll : Bool) (aA : Option Addr) (sA : List ByteArray) (cA : Nat) (tAll : Bool) (aB : Option Addr) (sB : List ByteArray) (cB : Nat) (w : World) (hA : Strs w aA sA) (hB : Strs w aB sB) :
    Calls Try.prog 5 #[.bool sAll, .slice aA sA.length cA, .bool tAll, .slice aB sB.length cB] w fun e w' => RetIf (sA.length ≤ 1048576 ∧ sB.length ≤ 1048576) w e w' := by
  obtain ⟨hlA, hcA⟩ := hA
  obtain ⟨hlB, hcB⟩ := hB
  unfold maxLen at *
  have HCA := (show Hid _ from hcA)
  have HCB := (show Hid _ from hcB)
  clear hcA hcB
  go_enter Try.func5, Try.ntmps5
  go_wp2
  all_goals try (go_ret; exact ret_if _ (by simp))
  go_loop [9, 10] (fun m i => ∃ (k : Nat) (z : Int), k ≤ sA.length ∧ i = .int .i64 k ∧ m = .int .i64 z ∧ 0 ≤ z ∧ z ≤ 1048576) (fun _ i => sA.length - (intOf i).toNat)
  case atStart => exact ⟨0, _, Nat.zero_le _, rfl, rfl, by omega, by omega⟩
  case round =>
    obtain ⟨k, z, hk, rfl, rfl, hz0, hz1⟩ := hrel
    by_cases hlt : k < sA.length
    · obtain ⟨b, off, rfl, hb, hcell, hsz⟩ := HCA.out k hlt
      generalize sA.getD k ByteArray.empty = s at hcell hsz
      go_wp2
      all_goals try (go_ret; exact ret_if _ (by simp))
      go_round
      case rel => exact ⟨k + 1, _, by omega, by go_num, rfl, by omega, by omega⟩
      case measure => simp [intOf]; omega
    · go_wp2
      all_goals try (go_ret; exact ret_if _ (by simp))
      go_loop [9, 11] (fun m i => ∃ (k : Nat) (z : Int), k ≤ sB.length ∧ i = .int .i64 k ∧ m = .int .i64 z ∧ 0 ≤ z ∧ z ≤ 1048576) (fun _ i => sB.length - (intOf i).toNat)
      case atStart => exact ⟨0, _, Nat.zero_le _, rfl, rfl, by omega, by omega⟩
      case round =>
        obtain ⟨k, z, hk, rfl, rfl, hz0, hz1⟩ := hrel
        by_cases hlt : k < sB.length
        · obtain ⟨b, off, rfl, hb, hcell, hsz⟩ := HCB.out k hlt
          generalize sB.getD k ByteArray.empty = s at hcell hsz
          go_wp2
          all_goals try (go_ret; exact ret_if _ (by simp))
          go_round
          case rel => exact ⟨k + 1, _, by omega, by go_num, rfl, by omega, by omega⟩
          case measure => simp [intOf]; omega
        · go_wp2
          all_goals (go_ret; exact ret_if _ (by first | (simp; done) | (intro _; exact ⟨by omega, by omega⟩)))

set_option maxHeartbeats 2000000 in
theorem zzBytes11_any (sAll : Bool) (aA : Option Addr) (sA : List ByteArray) (cA : Nat) (tAll : Bool) (aB : Option Addr) (sB : List ByteArray) (cB : Nat) (w : World) (hA : Strs w aA sA) (hB : Strs w aB sB) :
    Calls Try.prog 11 #[.bool sAll, .slice aA sA.length cA, .bool tAll, .slice aB sB.length cB] w fun e w' => RetIf (sA.length ≤ 1048576 ∧ sB.length ≤ 1048576) w e w' := by
  obtain ⟨hlA, hcA⟩ := hA
  obtain ⟨hlB, hcB⟩ := hB
  unfold maxLen at *
  have HCA := (show Hid _ from hcA)
  have HCB := (show Hid _ from hcB)
  clear hcA hcB
  go_enter Try.func11, Try.ntmps11
  go_wp2
  all_goals try (go_ret; exact ret_if _ (by simp))
  go_loop [9, 10] (fun m i => ∃ (k : Nat) (z : Int), k ≤ sA.length ∧ i = .int .i64 k ∧ m = .int .i64 z ∧ 0 ≤ z ∧ z ≤ 1048576) (fun _ i => sA.length - (intOf i).toNat)
  case atStart => exact ⟨0, _, Nat.zero_le _, rfl, rfl, by omega, by omega⟩
  case round =>
    obtain ⟨k, z, hk, rfl, rfl, hz0, hz1⟩ := hrel
    by_cases hlt : k < sA.length
    · obtain ⟨b, off, rfl, hb, hcell, hsz⟩ := HCA.out k hlt
      generalize sA.getD k ByteArray.empty = s at hcell hsz
      go_wp2
      all_goals try (go_ret; exact ret_if _ (by simp))
      go_round
      case rel => exact ⟨k + 1, _, by omega, by go_num, rfl, by omega, by omega⟩
      case measure => simp [intOf]; omega
    · go_wp2
      all_goals try (go_ret; exact ret_if _ (by simp))
      go_loop [9, 11] (fun m i => ∃ (k : Nat) (z : Int), k ≤ sB.length ∧ i = .int .i64 k ∧ m = .int .i64 z ∧ 0 ≤ z ∧ z ≤ 1048576) (fun _ i => sB.length - (intOf i).toNat)
      case atStart => exact ⟨0, _, Nat.zero_le _, rfl, rfl, by omega, by omega⟩
      case round =>
        obtain ⟨k, z, hk, rfl, rfl, hz0, hz1⟩ := hrel
        by_cases hlt : k < sB.length
        · obtain ⟨b, off, rfl, hb, hcell, hsz⟩ := HCB.out k hlt
          generalize sB.getD k ByteArray.empty = s at hcell hsz
          go_wp2
          all_goals try (go_ret; exact ret_if _ (by simp))
          go_round
          case rel => exact ⟨k + 1, _, by omega, by go_num, rfl, by omega, by omega⟩
          case measure => simp [intOf]; omega
        · go_wp2
          all_goals (go_ret; exact ret_if _ (by first | (simp; done) | (intro _; exact ⟨by omega, by omega⟩)))

set_option maxHeartbeats 1000000 in
theorem tooBig_any (aA : Option Addr) (sA : List ByteArray) (cA : Nat) (aB : Option Addr) (sB : List ByteArray) (cB : Nat) (w : World) (hA : Strs w aA sA) (hB : Strs w aB sB) :
    Calls Try.prog 6 #[.slice aA sA.length cA, .slice aB sB.length cB] w fun e w' => RetUnless (sA.length ≤ 4096 ∧ sB.length ≤ 4096) w e w' := by
  obtain ⟨hlA, hcA⟩ := hA
  obtain ⟨hlB, hcB⟩ := hB
  unfold maxLen at *
  have HCA := (show Hid _ from hcA)
  have HCB := (show Hid _ from hcB)
  clear hcA hcB
  by_cases h1 : 4096 < sA.length
  · go_enter Try.func6, Try.ntmps6
    go_wp2
    go_ret
    exact ret_unless _ (by simp)
  by_cases h2 : 4096 < sB.length
  · go_enter Try.func6, Try.ntmps6
    go_wp2
    go_ret
    exact ret_unless _ (by simp)
  go_enter Try.func6, Try.ntmps6
  go_wp2
  go_loop [5, 6] (fun m i => ∃ (k : Nat) (z : Int), k ≤ sA.length ∧ i = .int .i64 k ∧ m = .int .i64 z ∧ 0 ≤ z ∧ z ≤ 1048576) (fun _ i => sA.length - (intOf i).toNat)
  case atStart => exact ⟨0, _, Nat.zero_le _, rfl, rfl, by omega, by omega⟩
  case round =>
    obtain ⟨k, z, hk, rfl, rfl, hz0, hz1⟩ := hrel
    by_cases hlt : k < sA.length
    · obtain ⟨b, off, rfl, hb, hcell, hsz⟩ := HCA.out k hlt
      generalize sA.getD k ByteArray.empty = s at hcell hsz
      go_wp2
      all_goals try (go_ret; exact ret_unless _ (by simp))
      go_round
      case rel => exact ⟨k + 1, _, by omega, by go_num, rfl, by omega, by omega⟩
      case measure => simp [intOf]; omega
    · go_wp2
      go_loop [5, 7] (fun m i => ∃ (k : Nat) (z : Int), k ≤ sB.length ∧ i = .int .i64 k ∧ m = .int .i64 z ∧ 0 ≤ z ∧ z ≤ 1048576) (fun _ i => sB.length - (intOf i).toNat)
      case atStart => exact ⟨0, _, Nat.zero_le _, rfl, rfl, by omega, by omega⟩
      case round =>
        obtain ⟨k, z, hk, rfl, rfl, hz0, hz1⟩ := hrel
        by_cases hlt : k < sB.length
        · obtain ⟨b, off, rfl, hb, hcell, hsz⟩ := HCB.out k hlt
          generalize sB.getD k ByteArray.empty = s at hcell hsz
          go_wp2
          all_goals try (go_ret; exact ret_unless _ (by simp))
          go_round
          case rel => exact ⟨k + 1, _, by omega, by go_num, rfl, by omega, by omega⟩
          case measure => simp [intOf]; omega
        · go_wp2
          go_ret
          exact ret_unless _ (fun _ => ⟨by omega, by omega⟩)

/-- It hands back true; nothing that was there has turned. -/
def Yes (w : World) (e : Ending) (w' : World) : Prop := e = .returned (.bool true) ∧ Below w.heap.size w w'

set_option maxHeartbeats 400000 in
theorem sameNames_any (a b : Option Addr) (ss : List ByteArray) (c c' : Nat) (w : World) (hs : Strs w a ss) (ht : Strs w b ss) :
    Calls Try.prog 9 #[.slice a ss.length c, .slice b ss.length c'] w fun e w' => Yes w e w' := by
  obtain ⟨hl, hc⟩ := hs
  obtain ⟨_, hd⟩ := ht
  unfold maxLen at hl
  have HC := (show Hid _ from hc)
  have HD := (show Hid _ from hd)
  clear hc hd
  go_enter Try.func9, Try.ntmps9
  go_wp2
  go_loopw [5] (fun i wr => ∃ (k : Nat), k ≤ ss.length ∧ i = .int .i64 k ∧ Below w.heap.size w wr) (fun i _ => ss.length - (intOf i).toNat)
  case atStart => exact ⟨0, Nat.zero_le _, rfl, Below.refl _ _⟩
  case round =>
    obtain ⟨k, hk, rfl, hbel⟩ := hrel
    by_cases hlt : k < ss.length
    · obtain ⟨b1, off, ha, hb, hcell, _⟩ := HC.out k hlt
      obtain ⟨b', off', hb0, hb', hcell', _⟩ := HD.out k hlt
      subst ha
      subst hb0
      have h1 : wr.cell? ⟨b1, off + k, none⟩ = some (.string (ss.getD k ByteArray.empty)) := (hbel.cell (p := ⟨b1, off + k, none⟩) hb).trans hcell
      have h2 : wr.cell? ⟨b', off' + k, none⟩ = some (.string (ss.getD k ByteArray.empty)) := (hbel.cell (p := ⟨b', off' + k, none⟩) hb').trans hcell'
      have hki : (k : Int) < (ss.length : Int) := by omega
      clear hcell hcell'
      have HB := (show Hid _ from hbel)
      clear hbel
      generalize ss.getD k ByteArray.empty = s at *
      go_wp2
      go_quiet (fail)
      go_wp2
      go_roundw
      case rel => exact ⟨k + 1, by omega, by go_num, below_drewN HB.out _⟩
      case measure => simp [intOf]; omega
    · have HB := (show Hid _ from hbel)
      clear hbel
      go_wp2
      go_ret
      exact ⟨rfl, HB.out⟩

/-- A bool comes back; the world stands. -/
def RetB (b : Bool) (w : World) (e : Ending) (w' : World) : Prop := e = .returned (.bool b) ∧ w' = w
theorem ret_b {b b' : Bool} (w : World) (h : b = b') : RetB b' w (.returned (.bool b)) w := ⟨by rw [h], rfl⟩
def hasB (ss : List ByteArray) (x : ByteArray) : Bool := ss.any fun s => decide (s = x)
theorem hasB_t {ss : List ByteArray} {x : ByteArray} (h : x ∈ ss) : hasB ss x = true := by
  unfold hasB; rw [List.any_eq_true]; exact ⟨x, h, by simp⟩
theorem hasB_f {ss : List ByteArray} {x : ByteArray} (h : x ∉ ss) : hasB ss x = false := by
  unfold hasB; rw [List.any_eq_false]; intro y hy; simp; intro e; exact h (e ▸ hy)

theorem take_snoc_mem {ss : List ByteArray} {x : ByteArray} {k : Nat} (hk : k < ss.length) (h : x ∉ ss.take k) (hne : ¬ ss.getD k ByteArray.empty = x) : x ∉ ss.take (k + 1) := by
  rw [List.take_succ_eq_append_getElem hk]
  simp only [List.mem_append, List.mem_singleton, not_or]
  refine ⟨h, fun e => hne ?_⟩
  rw [List.getD_eq_getElem?_getD, List.getElem?_eq_getElem hk]
  exact e.symm

set_option maxHeartbeats 400000 in
theorem linearHas_any (a : Option Addr) (ss : List ByteArray) (c : Nat) (x : ByteArray) (w : World) (hs : Strs w a ss) :
    Calls Try.prog 13 #[.slice a ss.length c, .string x] w fun e w' => RetB (hasB ss x) w e w' := by
  obtain ⟨hl, hc⟩ := hs
  unfold maxLen at hl hc
  have HC := (show Hid _ from hc)
  clear hc
  go_enter Try.func13, Try.ntmps13
  go_wp2
  go_loop [5] (fun i => ∃ (k : Nat), k ≤ ss.length ∧ i = .int .i64 k ∧ Hid (x ∉ ss.take k)) (fun i => ss.length - (intOf i).toNat)
  case atStart => exact ⟨0, Nat.zero_le _, rfl, (by simp : x ∉ ss.take 0)⟩
  case round =>
    obtain ⟨k, hk, rfl, hno⟩ := hrel
    by_cases hlt : k < ss.length
    · obtain ⟨b, off, rfl, hb, hcell, hsz⟩ := HC.out k hlt
      by_cases he : ss.getD k ByteArray.empty = x
      · have E := (show Hid (hasB ss x = true) from hasB_t (by rw [← he, List.getD_eq_getElem?_getD, List.getElem?_eq_getElem hlt]; exact List.getElem_mem hlt))
        have e1 := seq_t he
        clear he
        generalize ss.getD k ByteArray.empty = s at *
        go_wp2
        go_ret
        exact ret_b _ E.out.symm
      · have E := (show Hid _ from take_snoc_mem hlt hno.out he)
        have e1 := seq_f he
        clear he
        generalize ss.getD k ByteArray.empty = s at *
        go_wp2
        go_round
        case rel => exact ⟨k + 1, by omega, by go_num, E⟩
        case measure => simp [intOf]; omega
    · have E := (show Hid (hasB ss x = false) from hasB_f (by have h := hno.out; rw [List.take_of_length_le (by omega)] at h; exact h))
      go_wp2
      go_ret
      exact ret_b _ E.out.symm

end Go.Proofs.Qxb6617303a
