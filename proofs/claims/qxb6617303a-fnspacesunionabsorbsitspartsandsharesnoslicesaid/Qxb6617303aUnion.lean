/-
  Seat b6617303a: (Spaces).Union.
-/
import Derived.Test.Qxb6617303aSortC
namespace Go.Proofs.Qxb6617303a
open Go.RowKit

/-- A slice of strings of which we know where it lies: nil has no room; its cells lie from block 'base' on and may be written. -/
def Own (base : Nat) (w : World) (a : Option Addr) (c : Nat) (zs : List ByteArray) : Prop :=
  Strs w a zs ∧ (a = none → c = 0) ∧ ∀ k, k < zs.length → ∃ b off, a = some ⟨b, off, none⟩ ∧ base ≤ b ∧ w.frozen? ⟨b, off + k, none⟩ = false

def UnionP (xs ys : List ByteArray) (w : World) (e : Ending) (w' : World) : Prop :=
  ∃ zs a c, Hid (zs = unionR xs ys) ∧ e = .returned (.agg #[.bool false, .slice a zs.length c]) ∧ Own w.heap.size w' a c zs ∧ Below w.heap.size w w'

def AllP (w : World) (e : Ending) (w' : World) : Prop := e = .returned (.agg #[.bool true, .slice none 0 0]) ∧ Below w.heap.size w w'

theorem below3 (w : World) (o1 o2 o3 : Obj) : Below w.heap.size w (((w.alloc o1).alloc o2).alloc o3) :=
  (((Below.refl _ _).alloc (Nat.le_refl _) _).alloc (by simp) _).alloc (by simp; omega) _

set_option maxHeartbeats 400000 in
theorem union_all_left (v : Value) (a : Option Addr) (n c : Nat) (b : Option Addr) (m d : Nat) (hv : v = .bool true ∨ v = .bool false) (w : World) :
    Calls Try.prog 8 #[.agg #[.bool true, .slice a n c], .agg #[v, .slice b m d]] w fun e w' => AllP w e w' := by
  rcases hv with rfl | rfl
  all_goals
    go_enter Try.func8, Try.ntmps8
    go_wp2
    exact bodyPost_ret (v := .agg #[.bool true, .slice none 0 0]) (by simp [results, Try.results8, go_sem]) rfl ⟨rfl, below3 _ _ _ _⟩

set_option maxHeartbeats 400000 in
theorem union_all_right (a : Option Addr) (n c : Nat) (b : Option Addr) (m d : Nat) (w : World) :
    Calls Try.prog 8 #[.agg #[.bool false, .slice a n c], .agg #[.bool true, .slice b m d]] w fun e w' => AllP w e w' := by
  go_enter Try.func8, Try.ntmps8
  go_wp2
  exact bodyPost_ret (v := .agg #[.bool true, .slice none 0 0]) (by simp [results, Try.results8, go_sem]) rfl ⟨rfl, below3 _ _ _ _⟩

theorem two_cells {w1 : World} {g : Nat} {u0 u1 : Value} (v0 v1 : Value) (h0 : w1.cell? ⟨g, 0, none⟩ = some u0) (h1 : w1.cell? ⟨g, 1, none⟩ = some u1) :
    ((w1.setCell ⟨g, 0, none⟩ v0).setCell ⟨g, 1, none⟩ v1).cell? ⟨g, 0, none⟩ = some v0 ∧ ((w1.setCell ⟨g, 0, none⟩ v0).setCell ⟨g, 1, none⟩ v1).cell? ⟨g, 1, none⟩ = some v1 := by
  constructor
  · rw [World.cell?_setCell_other _ _ _ _ (by simp), World.cell?_setCell_same _ _ _ h0]
  · rw [World.cell?_setCell_same _ _ _ (u := u1)]
    rw [World.cell?_setCell_other _ _ _ _ (by simp)]; exact h1

theorem block_cells {w : World} {g : Nat} {u0 u1 : Value} {T : TypeId} (h : w.heap[g]? = some (.cells #[u0, u1] T (0, 0))) :
    w.cell? ⟨g, 0, none⟩ = some u0 ∧ w.cell? ⟨g, 1, none⟩ = some u1 ∧ w.frozen? ⟨g, 0, none⟩ = false ∧ w.frozen? ⟨g, 1, none⟩ = false := by
  refine ⟨?_, ?_, ?_, ?_⟩ <;> simp [World.cell?, World.frozen?, h]

/-- The four blocks that Union lays ahead of Concat. -/
theorem four_facts (w : World) (o1 o2 o3 o4 : Obj) : ((((w.alloc o1).alloc o2).alloc o3).alloc o4).heap[w.heap.size + 1 + 1 + 1]? = some o4 ∧ ((((w.alloc o1).alloc o2).alloc o3).alloc o4).heap[w.heap.size + 1 + 1]? = some o3 ∧
    Below w.heap.size w ((((w.alloc o1).alloc o2).alloc o3).alloc o4) ∧ ((((w.alloc o1).alloc o2).alloc o3).alloc o4).heap.size = w.heap.size + 1 + 1 + 1 + 1 := by
  have e3 : (((w.alloc o1).alloc o2).alloc o3).heap.size = w.heap.size + 1 + 1 + 1 := by simp
  have e2 : ((w.alloc o1).alloc o2).heap.size = w.heap.size + 1 + 1 := by simp
  refine ⟨?_, ?_, Below.new (below3 w o1 o2 o3) o4, by simp⟩
  · have := heap_alloc_new (((w.alloc o1).alloc o2).alloc o3) o4
    rwa [e3] at this
  · rw [heap_alloc_old _ _ (by omega)]
    have := heap_alloc_new ((w.alloc o1).alloc o2) o3
    rwa [e2] at this

theorem RowIs.set {w : World} {g cap g2 : Nat} {us : List Bs} (h : RowIs w g cap us) (hne : g ≠ g2) (o : Nat) (u : Value) : RowIs (w.setCell ⟨g2, o, none⟩ u) g cap us := by
  obtain ⟨cur, hb, r⟩ := h
  exact ⟨cur, by rw [Below.heap_setCell _ _ _ _ hne]; exact hb, r⟩

theorem kept_block {w w' : World} {row : Option Nat} (g : w.grownBy w' row) {k : Nat} {o : Obj} (h : w.heap[k]? = some o) (hne : some k ≠ row) : w'.heap[k]? = some o := (g.block k (lt_of_block h) hne).trans h

set_option maxHeartbeats 1000000 in
theorem union_some (a : Option Addr) (xs : List ByteArray) (c : Nat) (b : Option Addr) (ys : List ByteArray) (d : Nat) (w : World) (hx : Strs w a xs) (hy : Strs w b ys) (hac : a = none → c = 0) (hbd : b = none → d = 0) (hlx : xs.length ≤ 262144) (hly : ys.length ≤ 262144) :
    Calls Try.prog 8 #[.agg #[.bool false, .slice a xs.length c], .agg #[.bool false, .slice b ys.length d]] w fun e w' => UnionP xs ys w e w' := by
  have HX := (show Hid _ from And.intro hx hac)
  have HY := (show Hid _ from And.intro hy hbd)
  clear hx hy hac hbd
  go_enter Try.func8, Try.ntmps8
  go_wp2_with fail
  obtain ⟨f1, f2, f3, f4⟩ := four_facts w (.cells #[.bool false, .slice a xs.length c] 27) (.cells #[.bool false, .slice b ys.length d] 27) (.cells #[.bool false, .slice none 0 0] 27) (.cells #[.slice a xs.length c, .slice b ys.length d] 22)
  generalize ((((w.alloc (.cells #[.bool false, .slice a xs.length c] 27)).alloc (.cells #[.bool false, .slice b ys.length d] 27)).alloc (.cells #[.bool false, .slice none 0 0] 27)).alloc (.cells #[.slice a xs.length c, .slice b ys.length d] 22)) = W at *
  obtain ⟨k0, k1, _, _⟩ := block_cells f1
  refine (concat_any (w.heap.size + 1 + 1 + 1) a xs c b ys d W (lt_of_block f1) k0 k1 (Strs.below HX.out.1 f3) (Strs.below HY.out.1 f3) HX.out.2 HY.out.2 hlx hly).mono ?_
  rintro e w1 ⟨v1, rfl, own1, bel1⟩
  clear f1 k0 k1
  have f5 : w1.heap[w.heap.size + 1 + 1]? = some (.cells #[.bool false, .slice none 0 0] 27) := by rw [bel1.block _ (lt_of_block f2)]; exact f2
  have b1 := Below.next f3 bel1
  have hg2 : w.heap.size + 1 + 1 < W.heap.size := lt_of_block f2
  have hWw := f3.size
  clear f2 f3 f4 bel1
  obtain ⟨N, hN⟩ : ∃ N, N = (xs ++ ys).length := ⟨_, rfl⟩
  rw [← hN] at own1
  have hN2 : N ≤ 1048576 := by rw [hN, List.length_append]; omega
  rcases own1.2 with ⟨rfl, hn0⟩ | ⟨g, cap, cur, rfl, hbase, hb, hl1, hl2, hl3, hl4⟩
  · -- nothing to list
    subst hn0
    have h0 : xs ++ ys = [] := List.length_eq_zero_iff.1 hN.symm
    have HE := (show Hid (unionR xs ys = []) from (by unfold unionR; rw [h0]; simp [bytesS, uniq, Lib.compact, Lib.compactUpTo] : unionR xs ys = []))
    obtain ⟨q0, q1, r0, r1⟩ := block_cells f5
    have HB := (show Hid _ from b1)
    clear own1 hN h0 f5 b1 hN2 hg2 hWw
    go_wp2_with (first | (go_at_call 15; refine (Try.slices_Sort_string_none none 0 _).mono ?_; rintro e w' ⟨rfl, hw⟩; subst w') | (go_at_call 16; refine (Try.slices_Compact_string_empty none 0 _).mono ?_; rintro e w' ⟨rfl, hw⟩; subst w'))
    obtain ⟨d0, d1⟩ := two_cells (.bool false) (.slice none 0 0) q0 q1
    refine bodyPost_ret (v := .agg #[.bool false, .slice none 0 0]) (by simp [results, Try.results8, go_sem, d0, d1]) rfl ?_
    exact ⟨[], none, 0, HE.out.symm, rfl, ⟨⟨Nat.zero_le _, fun k hk => by simp at hk⟩, fun _ => rfl, fun k hk => by simp at hk⟩, (HB.out.setCell (by simp; omega) _).setCell (by simp; omega) _⟩
  · have hbl : (bytesS (xs ++ ys)).length = N := by rw [hN]; simp [bytesS]
    have hrow : RowIs w1 g cap (bytesS (xs ++ ys)) := ⟨cur, hb, hl3, by rw [hbl]; exact hl1, hl2, by rw [hbl, ← cells_bytes]; simpa using hl4⟩
    have HN := (show Hid _ from hbl)
    clear own1 hN hb hl1 hl2 hl3 hl4 hbl
    go_wp2_with fail
    refine (sort_at g cap N _ _ hrow HN.out hN2).mono ?_
    rintro e w2 ⟨rfl, row2, gr2⟩
    go_wp2_with fail
    refine (compact_at g cap N _ _ row2 (by rw [List.length_mergeSort]; exact HN.out) hN2).mono ?_
    rintro e w3 ⟨us, hus, rfl, row3, gr3⟩
    have hgne : g ≠ w.heap.size + 1 + 1 := by omega
    have f6 := kept_block gr2 f5 (by simp; omega)
    have f7 := kept_block gr3 f6 (by simp; omega)
    obtain ⟨q0, q1, r0, r1⟩ := block_cells f7
    have b2 := b1.grown gr2 b1.size (fun k hk => by cases hk; omega)
    have b3 := b2.grown gr3 b2.size (fun k hk => by cases hk; omega)
    have hsz : ∀ l ∈ us, l.length ≤ maxLen := by
      intro l hl
      have hu := hus.out
      rw [hu, mem_compact, List.mem_mergeSort, mem_bytesS, List.mem_append] at hl
      have hz : ∀ ss : List ByteArray, ∀ aa, Strs w aa ss → mkB l ∈ ss → l.length ≤ maxLen := by
        intro ss aa hs hm
        rw [List.mem_iff_getElem] at hm
        obtain ⟨k, hk, e⟩ := hm
        obtain ⟨_, _, _, _, _, h⟩ := hs.2 k hk
        rw [List.getD_eq_getElem?_getD, List.getElem?_eq_getElem hk, Option.getD_some, e] at h
        simpa [mkB, ByteArray.size] using h
      rcases hl with h | h
      · exact hz xs a HX.out.1 h
      · exact hz ys b HY.out.1 h
    have HR := (show Hid _ from And.intro row3 (And.intro b3 hsz))
    have HU : Hid (us.map mkB = unionR xs ys) := (by unfold unionR uniq; rw [hus.out] : us.map mkB = unionR xs ys)
    have HBs := (show Hid _ from And.intro hbase hWw)
    clear hrow row2 gr2 row3 gr3 f5 f6 f7 b1 b2 b3 hus hsz
    go_wp2_with fail
    obtain ⟨d0, d1⟩ := two_cells (.bool false) (.slice (some ⟨g, 0, none⟩) us.length cap) q0 q1
    have row4 := (HR.out.1.set hgne 0 (.bool false)).set hgne 1 (.slice (some ⟨g, 0, none⟩) us.length cap)
    refine bodyPost_ret (v := .agg #[.bool false, .slice (some ⟨g, 0, none⟩) us.length cap]) (by simp [results, Try.results8, go_sem, d0, d1]) rfl ?_
    refine ⟨us.map mkB, some ⟨g, 0, none⟩, cap, HU, by rw [List.length_map], ⟨row4.strs HR.out.2.2, (fun h => by cases h), fun k hk => ⟨g, 0, rfl, by omega, by rw [Nat.zero_add]; exact row4.free k⟩⟩, (HR.out.2.1.setCell (by simp; omega) _).setCell (by simp; omega) _⟩

end Go.Proofs.Qxb6617303a
