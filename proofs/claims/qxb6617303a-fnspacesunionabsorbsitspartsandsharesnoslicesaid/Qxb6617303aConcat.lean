/-
  Seat b6617303a: slices.Grow at a nil slice; slices.Concat of two slices.
-/
import Derived.Test.Qxb6617303aLeafs
import Derived.Lib.Walk
import Derived.Lib.SliceRun
import Derived.Lib.AppendZerosOnto
import Derived.Laws.AppendOwnNone
namespace Go.Proofs.Qxb6617303a
open Go.RowKit

/-- What Grow hands back: an owned row of no element, or nil. -/
def GrowP (w : World) (e : Ending) (w' : World) : Prop := ∃ v, e = .returned v ∧ w'.ownsRow w.heap.size 9 1 v 0 [] ∧ Below w.heap.size w w'

set_option maxHeartbeats 400000 in
theorem grow_zero (w : World) : Calls Try.prog 18 #[.slice none 0 0, .int .i64 0] w fun e w' => GrowP w e w' := by
  go_enter Try.func18, Try.ntmps18
  go_wp2
  go_ret
  exact ⟨_, rfl, World.ownsRow_nil _ _ _ _, Below.refl _ _⟩

set_option maxHeartbeats 1000000 in
theorem grow_some (n : Nat) (w : World) (hn : 1 ≤ n) (hle : n ≤ 1048576) : Calls Try.prog 18 #[.slice none 0 0, .int .i64 n] w fun e w' => GrowP w e w' := by
  obtain ⟨i0, hi, hz0, hz1, hz2⟩ := info_parts Try.info9
  have hold : (Builtin.firstCells i0.size 0 (.slice none 0 0)).run Try.prog w.drew = .ok ([] : List Value).toArray w.drew := run_firstCells_none w.drew i0.size 0 0 0
  obtain ⟨G, hG⟩ : ∃ G, G = grownCap w (0 + n) 0 9 := ⟨_, rfl⟩
  obtain ⟨O, hO⟩ : ∃ O, O = (([] : List Value).toArray ++ Builtin.zeroCells (Value.string ⟨#[]⟩).cells n ++ Builtin.zeroCells (Value.string ⟨#[]⟩).cells (G - n)) := ⟨_, rfl⟩
  have hrz : ∀ ty, (Builtin.append_ #[22, 3] ty #[.slice none 0 0, .int .i64 (n : Int)]).run Try.prog w = .ok (.slice (some ⟨w.heap.size, 0, none⟩) n G) (w.drew.alloc (.cells O 9)) := fun ty => by
    have h := Lib.run_append_grow_zeros (P := Try.prog) w 22 3 ty 9 i0 (.string ⟨#[]⟩) .i64 .i64 Try.underlying22 Try.underlying3 hi hz0 none 0 0 [] hold n (by omega) (by omega) (by omega) (by omega) (by rw [hz2]; omega)
      (by exact growslice_fits (by omega) (by rw [hz2]; omega))
    rw [← hG, Nat.zero_add, ← hO] at h
    exact h
  have hGn : n ≤ G := by rw [hG]; have := grownCap_ge w (0 + n) 0 9; omega
  have hG63 : G ≤ maxLen := by rw [hG]; exact grownCap_le_maxLen w (0 + n) 0 9 (by unfold maxLen; omega)
  have HO := (show Hid (O.size = G) from (by rw [hO]; simp [size_zeroCells, Value.cells]; omega : O.size = G))
  have HG := (show Hid _ from hG63)
  have hG64 : G ≤ 9223372036854775807 := by unfold maxLen at hG63; omega
  clear hold hG hO hG63 hi hz0 hz1 hz2
  go_enter Try.func18, Try.ntmps18
  go_wp2_with (at_builtin; refine Lib.wpList_append_run _ rfl _ _ _ _ rfl _ _ rfl rfl _ _ (hrz _) ?_)
  all_goals
    go_ret
    refine ⟨_, rfl, ⟨rfl, .inr ⟨w.heap.size, G, O, rfl, Nat.le_refl _, heap_alloc_new w.drew _, Nat.zero_le _, HG.out, by rw [HO.out, Nat.mul_one], by simp⟩⟩, (Below.refl _ _).drew.alloc (Nat.le_refl _) _⟩

theorem grow_any (n : Nat) (w : World) (hle : n ≤ 1048576) : Calls Try.prog 18 #[.slice none 0 0, .int .i64 n] w fun e w' => GrowP w e w' := by
  rcases Nat.eq_zero_or_pos n with h | h
  · subst h; exact grow_zero w
  · exact grow_some n w h hle

/-- Strings as cells. -/
def cellsOfS (ss : List ByteArray) : List Value := ss.map Value.string

theorem strs_news {w : World} {ad : Addr} {ss : List ByteArray} (h : Strs w (some ad) ss) : ∀ j u, (cellsOfS ss)[j]? = some u → w.cell? (ad.add j) = some u := by
  intro j u hj
  have hl : j < ss.length := by
    rcases Nat.lt_or_ge j ss.length with h' | h'
    · exact h'
    · rw [List.getElem?_eq_none (by simpa [cellsOfS] using h')] at hj; cases hj
  obtain ⟨b, off, ha, _, hc, _⟩ := h.2 j hl
  cases ha
  have hp : (⟨b, off, none⟩ : Addr).add j = ⟨b, off + j, none⟩ := by unfold Addr.add; split <;> simp_all
  rw [hp, hc]
  simp only [cellsOfS, List.getElem?_map, List.getElem?_eq_getElem hl, Option.map_some] at hj
  rw [← hj, List.getD_eq_getElem?_getD, List.getElem?_eq_getElem hl]; rfl

theorem cells_one (ss : List ByteArray) : ∀ u ∈ cellsOfS ss, u.oneCell' = true := by
  intro u hu
  simp only [cellsOfS, List.mem_map] at hu
  obtain ⟨s, _, rfl⟩ := hu
  rfl

theorem own_block {w : World} {base : Nat} {e : TypeId} {size : Nat} {v : Value} {n : Nat} {xs : List Value} (h : w.ownsRow base e size v n xs) : ∀ k, v.ownBlock = some k → base ≤ k := by
  intro k hk
  rcases h.2 with ⟨rfl, _⟩ | ⟨g, cap, cur, rfl, hb, _⟩
  · simp [Value.ownBlock] at hk
  · simp only [Value.ownBlock, Option.some.injEq] at hk
    omega

/-- What Concat hands back: a slice of the call's own that owns the strings zs. -/
def OwnP (zs : List ByteArray) (w : World) (e : Ending) (w' : World) : Prop := ∃ v, e = .returned v ∧ w'.ownsRow w.heap.size 9 1 v zs.length (cellsOfS zs) ∧ Below w.heap.size w w'

/-- The k slices met so far. -/
def upTo (xs ys : List ByteArray) : Nat → List ByteArray
  | 0 => []
  | 1 => xs
  | _ => xs ++ ys
def sumTo (xs ys : List ByteArray) (k : Nat) : Int := (upTo xs ys k).length

set_option maxHeartbeats 2000000 in
theorem concat_any (g : Nat) (a : Option Addr) (xs : List ByteArray) (c : Nat) (b : Option Addr) (ys : List ByteArray) (d : Nat) (w : World) (hg : g < w.heap.size) (h0 : w.cell? ⟨g, 0, none⟩ = some (.slice a xs.length c)) (h1 : w.cell? ⟨g, 1, none⟩ = some (.slice b ys.length d))
    (hx : Strs w a xs) (hy : Strs w b ys) (hac : a = none → c = 0) (hbd : b = none → d = 0) (hlx : xs.length ≤ 262144) (hly : ys.length ≤ 262144) :
    Calls Try.prog 14 #[.slice (some ⟨g, 0, none⟩) 2 2] w fun e w' => OwnP (xs ++ ys) w e w' := by
  have HX := (show Hid _ from And.intro hx hac)
  have HY := (show Hid _ from And.intro hy hbd)
  clear hx hy hac hbd
  obtain ⟨i0, hi, hz0, hz1, hz2⟩ := info_parts Try.info9
  go_enter Try.func14, Try.ntmps14
  go_wp2
  go_loop [3, 11] (fun m i => ∃ k : Nat, k ≤ 2 ∧ i = .int .i64 k ∧ m = .int .i64 (sumTo xs ys k)) (fun _ i => 2 - (intOf i).toNat)
  case atStart => exact ⟨0, by omega, rfl, rfl⟩
  case round =>
    obtain ⟨k, hk, rfl, rfl⟩ := hrel
    have hk3 : k = 0 ∨ k = 1 ∨ k = 2 := by omega
    rcases hk3 with rfl | rfl | rfl
    · have e0 : sumTo xs ys 0 = 0 := rfl
      rw [e0]
      go_wp2
      go_round
      case rel => exact ⟨1, by omega, rfl, by show Value.int .i64 _ = Value.int .i64 (xs.length : Int); simp⟩
      case measure => simp [intOf]
    · have e0 : sumTo xs ys 1 = (xs.length : Int) := rfl
      rw [e0]
      go_wp2
      go_round
      case rel => exact ⟨2, by omega, rfl, by show _ = Value.int .i64 ((xs ++ ys).length : Int); rw [List.length_append]; go_num⟩
      case measure => simp [intOf]
    · have e0 : sumTo xs ys 2 = ((xs.length + ys.length : Nat) : Int) := by show ((xs ++ ys).length : Int) = _; rw [List.length_append]
      rw [e0]
      obtain ⟨N, hN⟩ : ∃ N, N = xs.length + ys.length := ⟨_, rfl⟩
      rw [← hN]
      have hN2 : N ≤ 1048576 := by omega
      have HN := (show Hid _ from hN)
      clear hN e0
      go_wp2_with (go_at_call 18; refine (grow_any N _ hN2).mono ?_; rintro e w1 ⟨v1, rfl, own1, bel1⟩)
      have HC := (show Hid _ from And.intro h0 h1)
      clear hN2 h0 h1
      go_loopw [6, 27] (fun v i wr => ∃ k : Nat, k ≤ 2 ∧ i = .int .i64 k ∧ wr.ownsRow w.heap.size 9 1 v (upTo xs ys k).length (cellsOfS (upTo xs ys k)) ∧ Below w.heap.size w wr) (fun _ i _ => 2 - (intOf i).toNat)
      case atStart => exact ⟨0, by omega, rfl, own1, bel1⟩
      case round =>
        obtain ⟨k, hk, rfl, own, bel⟩ := hrel
        have q0 : wr.cell? ⟨g, 0, none⟩ = some (.slice a xs.length c) := (bel.cell (p := ⟨g, 0, none⟩) hg).trans HC.out.1
        have q1 : wr.cell? ⟨g, 1, none⟩ = some (.slice b ys.length d) := (bel.cell (p := ⟨g, 1, none⟩) hg).trans HC.out.2
        clear HC
        have hk3 : k = 0 ∨ k = 1 ∨ k = 2 := by omega
        rcases hk3 with rfl | rfl | rfl
        · clear q1
          cases a with
          | none =>
            have hc0 := HX.out.2 rfl
            subst hc0
            cases xs with
            | cons s r => obtain ⟨_, _, h, _⟩ := HX.out.1.2 0 (by simp); cases h
            | nil =>
              go_wp2_with (at_builtin; refine wpList_append_own_none rfl _ _ 22 rfl w.heap.size 9 i0 1 Try.underlying22 hi _ _ _ rfl own rfl ?_)
              go_roundw
              case rel => exact ⟨1, by omega, rfl, by simpa [upTo] using own, bel⟩
              case measure => simp [intOf]
          | some ad =>
            have hnews := (show Hid _ from strs_news (Strs.below HX.out.1 bel))
            go_wp2_with (at_builtin; refine wpList_append_own _ rfl _ _ 22 rfl w.heap.size 9 i0 (.string ⟨#[]⟩) 1 16 Try.underlying22 hi hz0 hz1 hz2 rfl (by decide) _ _ _ rfl own ad xs.length c (cellsOfS xs) rfl (by simp [cellsOfS]) hnews.out (cells_one _) (by simp [upTo, maxLen]; omega) (by simp [upTo]; omega) bel.size ?_; intro v2 w2 own2 grow2 nil2)
            go_roundw
            case rel => exact ⟨1, by omega, rfl, by simpa [upTo, cellsOfS] using own2, bel.grown grow2 bel.size (own_block own)⟩
            case measure => simp [intOf]
        · clear q0
          cases b with
          | none =>
            have hc0 := HY.out.2 rfl
            subst hc0
            cases ys with
            | cons s r => obtain ⟨_, _, h, _⟩ := HY.out.1.2 0 (by simp); cases h
            | nil =>
              go_wp2_with (at_builtin; refine wpList_append_own_none rfl _ _ 22 rfl w.heap.size 9 i0 1 Try.underlying22 hi _ _ _ rfl own rfl ?_)
              go_roundw
              case rel => exact ⟨2, by omega, rfl, by simpa [upTo] using own, bel⟩
              case measure => simp [intOf]
          | some ad =>
            have hnews := (show Hid _ from strs_news (Strs.below HY.out.1 bel))
            go_wp2_with (at_builtin; refine wpList_append_own _ rfl _ _ 22 rfl w.heap.size 9 i0 (.string ⟨#[]⟩) 1 16 Try.underlying22 hi hz0 hz1 hz2 rfl (by decide) _ _ _ rfl own ad ys.length d (cellsOfS ys) rfl (by simp [cellsOfS]) hnews.out (cells_one _) (by simp [upTo, maxLen]; omega) (by simp [upTo]; omega) bel.size ?_; intro v2 w2 own2 grow2 nil2)
            go_roundw
            case rel => exact ⟨2, by omega, rfl, by simpa [upTo, cellsOfS] using own2, bel.grown grow2 bel.size (own_block own)⟩
            case measure => simp [intOf]
        · go_wp2
          go_ret
          exact ⟨_, rfl, own, bel⟩

end Go.Proofs.Qxb6617303a
