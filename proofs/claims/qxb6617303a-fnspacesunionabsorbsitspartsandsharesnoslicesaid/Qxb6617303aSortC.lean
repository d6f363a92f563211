/-
  Seat b6617303a: the library's Sort and Compact on a row of the call's own, after the shelf's contracts.
-/
import Derived.Test.Qxb6617303aUnionR
import Derived.Test.Qxb6617303aConcat
import Derived.Test.Qxb6617303aShelf
namespace Go.Proofs.Qxb6617303a
open Go.RowKit Go.Sort

/-- Block g is a row of cap cells whose first cells hold the byte strings ts. -/
def RowIs (w : World) (g cap : Nat) (ts : List Bs) : Prop :=
  ∃ cur, w.heap[g]? = some (.cells cur 9 (0, 0)) ∧ cur.size = cap * 1 ∧ ts.length ≤ cap ∧ cap ≤ maxLen ∧ cur.toList.take ts.length = ts.map encStr

theorem cells_bytes (zs : List ByteArray) : cellsOfS zs = (bytesS zs).map encStr := by
  unfold cellsOfS bytesS
  rw [List.map_map]
  exact List.map_congr_left (fun s _ => by show Value.string s = Value.string (mkB s.data.toList); rw [mkB_data])

theorem RowIs.lt {w : World} {g cap : Nat} {ts : List Bs} (h : RowIs w g cap ts) : g < w.heap.size := by
  obtain ⟨cur, hb, _⟩ := h
  exact lt_of_block hb

theorem RowIs.holds {w : World} {g cap : Nat} {ts : List Bs} (h : RowIs w g cap ts) : Holds encStr w g 0 ts.toArray := by
  obtain ⟨cur, hb, _, _, _, ht⟩ := h
  exact holds_of_block hb ht

theorem row_put {w : World} {g cap n : Nat} {ts us : List Bs} (h : RowIs w g cap ts) (hl : us.length = ts.length) (os : Array Obj) :
    RowIs (grow (putRow encStr (Sort.ahead w n) g 0 us.toArray) os) g cap us := by
  obtain ⟨cur, hb, h1, h2, h3, _⟩ := h
  exact ⟨_, heap_sorted _ hb, by simp [putCells, h1], by omega, h3, take_putCells cur us (by omega)⟩

theorem RowIs.take {w : World} {g cap : Nat} {us rs : List Bs} (h : RowIs w g cap (us ++ rs)) : RowIs w g cap us := by
  obtain ⟨cur, hb, h1, h2, h3, h4⟩ := h
  rw [List.length_append] at h2 h4
  refine ⟨cur, hb, h1, by omega, h3, ?_⟩
  have e : cur.toList.take us.length = (cur.toList.take (us.length + rs.length)).take us.length := by rw [List.take_take, Nat.min_eq_left (by omega)]
  rw [e, h4, List.map_append, List.take_append_of_le_length (by simp), List.take_of_length_le (by simp)]

def SortP (g cap : Nat) (ts : List Bs) (w : World) (e : Ending) (w' : World) : Prop := e = .returned (.tuple #[]) ∧ RowIs w' g cap ts ∧ w.grownBy w' (some g)

theorem sort_at (g cap N : Nat) (ts : List Bs) (w : World) (h : RowIs w g cap ts) (hN : ts.length = N) (hle : N ≤ 1048576) :
    Calls Try.prog 15 #[.slice (some ⟨g, 0, none⟩) N cap] w fun e w' => SortP g cap (ts.mergeSort fun x y => decide (x ≤ y)) w e w' := by
  subst hN
  refine (Try.slices_Sort_string g 0 cap ts w h.holds h.lt (by omega)).mono ?_
  rintro e w' ⟨rfl, n, os, rfl⟩
  exact ⟨rfl, row_put h (by simp) os, grownBy_sorted _⟩

def CompactP (g cap : Nat) (us : List Bs) (w : World) (e : Ending) (w' : World) : Prop := ∃ us', Hid (us' = us) ∧ e = .returned (.slice (some ⟨g, 0, none⟩) us'.length cap) ∧ RowIs w' g cap us' ∧ w.grownBy w' (some g)

theorem compact_at (g cap N : Nat) (ts : List Bs) (w : World) (h : RowIs w g cap ts) (hN : ts.length = N) (hle : N ≤ 1048576) :
    Calls Try.prog 16 #[.slice (some ⟨g, 0, none⟩) N cap] w fun e w' => CompactP g cap (Lib.compact ts) w e w' := by
  subst hN
  have hc : ts.length ≤ cap := by obtain ⟨_, _, _, h2, _⟩ := h; exact h2
  refine (Try.slices_Compact_string g 0 cap ts w h.holds (by omega) hc).mono ?_
  rintro e w' ⟨rfl, q, rfl⟩
  have hl : (Lib.compact ts ++ List.replicate (ts.length - (Lib.compact ts).length) ([] : Bs)).length = ts.length := by
    have := Lib.compact_length_le ts
    simp; omega
  have r := row_put (n := q) h hl #[]
  have g1 := grownBy_sorted (w := w) (g := g) (n := q) (os := #[]) (Lib.compact ts ++ List.replicate (ts.length - (Lib.compact ts).length) ([] : Bs)).toArray
  rw [grow_empty] at r g1
  exact ⟨_, rfl, rfl, r.take, g1⟩

/-- From a row to a slice of strings. -/
theorem RowIs.strs {w : World} {g cap : Nat} {us : List Bs} (h : RowIs w g cap us) (hsz : ∀ l ∈ us, l.length ≤ maxLen) : Strs w (some ⟨g, 0, none⟩) (us.map mkB) := by
  have hlt := h.lt
  obtain ⟨cur, hb, h1, h2, h3, h4⟩ := h
  refine ⟨by rw [List.length_map]; omega, fun k hk => ?_⟩
  rw [List.length_map] at hk
  have e : (us.map mkB).getD k ByteArray.empty = mkB us[k] := by simp [List.getD_eq_getElem?_getD, hk]
  rw [e]
  refine ⟨g, 0, rfl, hlt, ?_, by have := hsz us[k] (List.getElem_mem hk); simpa [mkB, ByteArray.size] using this⟩
  have hc : cur.toList[k]? = some (encStr us[k]) := by
    have : (cur.toList.take us.length)[k]? = some (encStr us[k]) := by rw [h4]; simp [hk]
    rwa [List.getElem?_take, if_pos hk] at this
  rw [Nat.zero_add, cell_of_row w g k cur 9 (0, 0) hb]
  show cur[k]? = some (encStr us[k])
  simpa using hc

theorem RowIs.free {w : World} {g cap : Nat} {us : List Bs} (h : RowIs w g cap us) (k : Nat) : w.frozen? ⟨g, k, none⟩ = false := by
  obtain ⟨cur, hb, _⟩ := h
  exact frozen_of_row w g k cur 9 hb

end Go.Proofs.Qxb6617303a
