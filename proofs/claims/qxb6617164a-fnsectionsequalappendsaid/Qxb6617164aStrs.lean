/-
  Seat b6617164a: slices of strings; zzStrBytes, zzCat2, zzCat3, zzCopy, ZZSections.
-/
import Derived.Test.Qxb6617164aRows
import Derived.WalkKit
import Derived.WalkSpells
import Derived.WalkLawsBesides
import Derived.WalkSmall
import Derived.Deep.QuietTactic
import Derived.BigQuiet
namespace Go.Proofs.Qxb6617164a
open Go.RowKit

/-- A slice of strings as it lies in memory: its elements are 'ss' (nothing is said of its spare room). -/
def Strs (w : World) (a : Option Addr) (ss : List ByteArray) : Prop :=
  ss.length ≤ maxLen ∧ ∀ k, k < ss.length → ∃ b off, a = some ⟨b, off, none⟩ ∧ b < w.heap.size ∧ w.cell? ⟨b, off + k, none⟩ = some (.string (ss.getD k ByteArray.empty)) ∧ (ss.getD k ByteArray.empty).size ≤ maxLen

theorem Strs.below {w w' : World} {a : Option Addr} {ss : List ByteArray} (h : Strs w a ss) (hb : Below w.heap.size w w') : Strs w' a ss := by
  refine ⟨h.1, fun k hk => ?_⟩
  obtain ⟨b, off, ha, hlt, hc, hsz⟩ := h.2 k hk
  exact ⟨b, off, ha, Nat.lt_of_lt_of_le hlt hb.size, (hb.cell (p := ⟨b, off + k, none⟩) hlt).trans hc, hsz⟩

theorem Strs.nil (w : World) (a : Option Addr) : Strs w a [] := ⟨Nat.zero_le _, fun k hk => by simp at hk⟩

/-- An int comes back, within bounds; the world stands. -/
def RetN (lo hi : Int) (w : World) (e : Ending) (w' : World) : Prop := (∃ r : Int, e = .returned (.int .i64 r) ∧ lo ≤ r ∧ r ≤ hi) ∧ w' = w
theorem ret_n {lo hi r : Int} (w : World) (h0 : lo ≤ r) (h1 : r ≤ hi) : RetN lo hi w (.returned (.int .i64 r)) w := ⟨⟨r, rfl, h0, h1⟩, rfl⟩

set_option maxHeartbeats 400000 in
theorem strBytes_any (acc : Int) (a : Option Addr) (ss : List ByteArray) (cap : Nat) (w : World) (hs : Strs w a ss) (h0 : 0 ≤ acc) (h1 : acc ≤ 4194304) :
    Calls Try.prog 10 #[.int .i64 acc, .slice a ss.length cap] w fun e w' => RetN 0 4194304 w e w' := by
  obtain ⟨hl, hc⟩ := hs
  unfold maxLen at hl hc
  have HC := (show Hid _ from hc)
  clear hc
  go_enter Try.func10, Try.ntmps10
  go_wp2
  · go_ret
    exact ret_n _ (by omega) (by omega)
  have hle : acc ≤ 1048576 := by assumption
  rw [show decide (1048576 < acc) = false from decide_eq_false (by omega)]
  go_loop [0, 5] (fun m i => ∃ (k : Nat) (z : Int), k ≤ ss.length ∧ i = .int .i64 k ∧ m = .int .i64 z ∧ 0 ≤ z ∧ z ≤ 1048576) (fun _ i => ss.length - (intOf i).toNat)
  case atStart => exact ⟨0, acc, Nat.zero_le _, rfl, rfl, h0, hle⟩
  case round =>
    obtain ⟨k, z, hk, rfl, rfl, hz0, hz1⟩ := hrel
    by_cases hlt : k < ss.length
    · obtain ⟨b, off, rfl, hb, hcell, hsz⟩ := HC.out k hlt
      generalize ss.getD k ByteArray.empty = s at hcell hsz
      go_wp2
      · go_ret
        exact ret_n _ (by omega) (by omega)
      · go_ret
        exact ret_n _ (by omega) (by omega)
      · go_round
        case rel => exact ⟨k + 1, _, by omega, by go_num, rfl, by omega, by omega⟩
        case measure => simp [intOf]; omega
    · go_wp2
      go_ret
      exact ret_n _ (by omega) (by omega)

/-- What is written so far: the first k cells hold the first k strings. -/
def Filled (ss : List ByteArray) (k : Nat) (xs : List Value) : Prop := ∀ j, j < k → xs[j]? = some (.string (ss.getD j ByteArray.empty))

theorem Filled.set {ss : List ByteArray} {k : Nat} {xs : List Value} (h : Filled ss k xs) (hk : k < xs.length) : Filled ss (k + 1) (xs.set k (.string (ss.getD k ByteArray.empty))) := by
  intro j hj
  rw [List.getElem?_set]
  by_cases e : k = j
  · subst e; rw [if_pos rfl, if_pos hk]
  · rw [if_neg e]; exact h j (by omega)

theorem Filled.strs {ss : List ByteArray} {xs : List Value} {w : World} {base g cap : Nat} (h : Filled ss ss.length xs) (hl : ss.length ≤ maxLen) (hsz : ∀ k, k < ss.length → (ss.getD k ByteArray.empty).size ≤ maxLen)
    (ho : w.ownsRow base 9 1 (.slice (some ⟨g, 0, none⟩) ss.length cap) ss.length xs) : Strs w (some ⟨g, 0, none⟩) ss := by
  have hg : g < w.heap.size := by
    rcases ho.2 with ⟨h', _⟩ | ⟨g', cap', cur, h', _, hg, _⟩
    · simp at h'
    · simp only [Value.slice.injEq, Option.some.injEq, Addr.mk.injEq, and_true, true_and] at h'
      obtain ⟨rfl, rfl⟩ := h'
      exact (Array.getElem?_eq_some_iff.1 hg).1
  refine ⟨hl, fun k hk => ⟨g, 0, rfl, hg, ?_, hsz k hk⟩⟩
  rw [Nat.zero_add, ho.cellAt k (by omega), h k hk]

theorem Strs.size_le {w : World} {a : Option Addr} {ss : List ByteArray} (h : Strs w a ss) (k : Nat) (hk : k < ss.length) : (ss.getD k ByteArray.empty).size ≤ maxLen := by
  obtain ⟨_, _, _, _, _, h⟩ := h.2 k hk
  exact h

theorem getD_append {xs ys : List ByteArray} (k : Nat) : (xs ++ ys).getD k ByteArray.empty = if k < xs.length then xs.getD k ByteArray.empty else ys.getD (k - xs.length) ByteArray.empty := by
  simp only [List.getD_eq_getElem?_getD]
  by_cases h : k < xs.length
  · rw [if_pos h, List.getElem?_append_left h]
  · rw [if_neg h, List.getElem?_append_right (by omega)]

theorem Try.info9 : (Try.prog.info? 9).map (fun i => (i.zero, i.size, i.bytes)) = some (some (.string ⟨#[]⟩), 1, 16) := by kernel_rfl

/-- A fresh slice of the strings zs. -/
def FreshP (zs : List ByteArray) (w : World) (e : Ending) (w' : World) : Prop :=
  ∃ zs' a' c', Hid (zs' = zs) ∧ e = .returned (.slice a' zs'.length c') ∧ Strs w' a' zs' ∧ Below w.heap.size w w'

theorem fresh_mk {zs : List ByteArray} {w w' : World} {a' : Option Addr} {n c' : Nat} (hn : n = zs.length) (hs : Strs w' a' zs) (hb : Below w.heap.size w w') : FreshP zs w (.returned (.slice a' n c')) w' := by
  subst hn; exact ⟨zs, a', c', rfl, rfl, hs, hb⟩

/-- One more cell is written. -/
theorem step_row {w wr : World} {g N k : Nat} {zs : List ByteArray} {xs : List Value} (hrow : wr.ownsRow w.heap.size 9 1 (.slice (some ⟨g, 0, none⟩) N N) N xs) (hf : Filled zs k xs) (hb : Below w.heap.size w wr) (hk : k < N) (hg : w.heap.size ≤ g) (s : ByteArray) (hs : zs.getD k ByteArray.empty = s) :
    Hid ((wr.setCell ⟨g, k, none⟩ (.string s)).ownsRow w.heap.size 9 1 (.slice (some ⟨g, 0, none⟩) N N) N (xs.set k (.string s)) ∧ Filled zs (k + 1) (xs.set k (.string s)) ∧ Below w.heap.size w (wr.setCell ⟨g, k, none⟩ (.string s))) ∧
    (∃ u, wr.cell? ⟨g, k, none⟩ = some u) ∧ wr.frozen? ⟨g, k, none⟩ = false := by
  have hl := hrow.1
  obtain ⟨h1, _⟩ := hrow.stored k (.string s)
  refine ⟨⟨h1, by rw [← hs]; exact hf.set (by omega), hb.setCell hg _⟩, ?_, hrow.frozenAt k⟩
  rw [hrow.cellAt k (by omega)]
  exact ⟨_, List.getElem?_eq_getElem (by omega)⟩

set_option maxHeartbeats 1000000 in
theorem cat2_any (a : Option Addr) (xs : List ByteArray) (ca : Nat) (b : Option Addr) (ys : List ByteArray) (cb : Nat) (w : World) (hx : Strs w a xs) (hy : Strs w b ys) (hlx : xs.length ≤ 1048576) (hly : ys.length ≤ 1048576) :
    Calls Try.prog 15 #[.slice a xs.length ca, .slice b ys.length cb] w fun e w' => FreshP (xs ++ ys) w e w' := by
  have HX := (show Hid _ from hx)
  have HY := (show Hid _ from hy)
  clear hx hy
  obtain ⟨zs, hzs⟩ : ∃ zs, zs = xs ++ ys := ⟨_, rfl⟩
  rw [← hzs]
  have Z1 := (show Hid (∀ k, k < xs.length → zs.getD k ByteArray.empty = xs.getD k ByteArray.empty) from fun k hk => by rw [hzs, getD_append, if_pos hk])
  have Z2 := (show Hid (∀ k, zs.getD (xs.length + k) ByteArray.empty = ys.getD k ByteArray.empty) from fun k => by rw [hzs, getD_append, if_neg (by omega), Nat.add_sub_cancel_left])
  have Z3 := (show Hid (zs.length = xs.length + ys.length) from (by rw [hzs, List.length_append] : zs.length = xs.length + ys.length))
  clear hzs
  obtain ⟨N, hN⟩ : ∃ N, N = xs.length + ys.length := ⟨_, rfl⟩
  have hNi : (xs.length : Int) + (ys.length : Int) = (N : Int) := by omega
  have HN := (show Hid _ from hN)
  have hN1 : xs.length ≤ N := by omega
  have hN2 : N ≤ 2097152 := by omega
  clear hN
  obtain ⟨i0, hi, hz0, hz1, hz2⟩ := info_parts Try.info9
  go_enter Try.func15, Try.ntmps15
  go_wp2_with (at_make; refine wpList_make_full _ rfl _ _ 27 rfl w.heap.size 9 i0 (.string ⟨#[]⟩) 1 Try.underlying27 hi hz0 hz1 .i64 .i64 _ _ N rfl rfl (by omega) (by omega) (by rw [hz2]; omega) (by unfold maxLen; omega) (Nat.le_refl _) ?_; intro w1 hown hgrow)
  clear hNi hi hz0 hz1 hz2
  go_loopw [6] (fun i wr => ∃ (k : Nat) (cs : List Value), k ≤ xs.length ∧ i = .int .i64 k ∧ wr.ownsRow w.heap.size 9 1 (.slice (some ⟨w.heap.size, 0, none⟩) N N) N cs ∧ Filled zs k cs ∧ Below w.heap.size w wr) (fun i _ => xs.length - (intOf i).toNat)
  case atStart => exact ⟨0, _, Nat.zero_le _, rfl, hown, fun j hj => by omega, (Below.refl _ _).grown hgrow (Nat.le_refl _) (fun k hk => by simp at hk)⟩
  case round =>
    obtain ⟨k, cs, hk, rfl, hrow, hfil, hbel⟩ := hrel
    clear hown hgrow
    by_cases hlt : k < xs.length
    · obtain ⟨bb, off, rfl, hb, hcell, hsz⟩ := HX.out.2 k hlt
      obtain ⟨st, ⟨u, hu⟩, hfr⟩ := step_row hrow hfil hbel (by omega) (Nat.le_refl _) _ (Z1.out k hlt)
      have hcell2 : wr.cell? ⟨bb, off + k, none⟩ = some (.string (xs.getD k ByteArray.empty)) := (hbel.cell (p := ⟨bb, off + k, none⟩) hb).trans hcell
      have hkN : (k : Int) < (N : Int) := by omega
      clear hcell hbel hrow hfil
      generalize xs.getD k ByteArray.empty = s at *
      go_wp2
      go_roundw
      case rel => exact ⟨k + 1, _, by omega, by go_num, st.out.1, st.out.2.1, st.out.2.2⟩
      case measure => simp [intOf]; omega
    · have hkk : k = xs.length := by omega
      subst hkk
      have HB := (show Hid _ from And.intro hrow (And.intro hfil hbel))
      clear hbel hrow hfil hlt hk
      go_wp2
      go_loopw [7] (fun i wr => ∃ (k : Nat) (cs : List Value), k ≤ ys.length ∧ i = .int .i64 k ∧ wr.ownsRow w.heap.size 9 1 (.slice (some ⟨w.heap.size, 0, none⟩) N N) N cs ∧ Filled zs (xs.length + k) cs ∧ Below w.heap.size w wr) (fun i _ => ys.length - (intOf i).toNat)
      case atStart => exact ⟨0, _, Nat.zero_le _, rfl, HB.out.1, HB.out.2.1, HB.out.2.2⟩
      case round =>
        obtain ⟨k, cs, hk, rfl, hrow, hfil, hbel⟩ := hrel
        clear HB
        by_cases hlt : k < ys.length
        · obtain ⟨bb, off, rfl, hb, hcell, hsz⟩ := HY.out.2 k hlt
          have hkN : (xs.length : Int) + (k : Int) < (N : Int) := by have := HN.out; omega
          obtain ⟨st, ⟨u, hu⟩, hfr⟩ := step_row hrow hfil hbel (by omega) (Nat.le_refl _) _ (Z2.out k)
          have hcell2 : wr.cell? ⟨bb, off + k, none⟩ = some (.string (ys.getD k ByteArray.empty)) := (hbel.cell (p := ⟨bb, off + k, none⟩) hb).trans hcell
          clear hcell hbel hrow hfil
          generalize ys.getD k ByteArray.empty = s at *
          go_wp2
          go_roundw
          case rel => exact ⟨k + 1, _, by omega, by go_num, st.out.1, st.out.2.1, st.out.2.2⟩
          case measure => simp [intOf]; omega
        · have hkk : k = ys.length := by omega
          have HB := (show Hid _ from And.intro hrow (And.intro hfil hbel))
          have HK := (show Hid _ from hkk)
          clear hbel hrow hfil hkk
          go_wp2
          go_ret
          have eN : N = zs.length := by rw [Z3.out, HN.out]
          refine fresh_mk eN ?_ HB.out.2.2
          have hf := HB.out.2.1
          rw [HK.out, ← Z3.out] at hf
          have ho := HB.out.1
          rw [eN] at ho
          refine hf.strs (by unfold maxLen; omega) (fun j hj => ?_) ho
          by_cases h : j < xs.length
          · rw [Z1.out j h]; exact Strs.size_le HX.out j h
          · have := Strs.size_le HY.out (j - xs.length) (by have := Z3.out; omega)
            rw [← Z2.out, show xs.length + (j - xs.length) = j by omega] at this
            exact this

end Go.Proofs.Qxb6617164a
