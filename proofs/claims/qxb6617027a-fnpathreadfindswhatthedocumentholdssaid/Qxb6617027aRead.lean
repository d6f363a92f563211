/-
  Seat b6617027a: (path).readsObject, (path).read, ZZpathRead.
-/
import Derived.Test.Qxb6617027aLook
import Derived.Deep.RegionWith
namespace Go.Proofs.Qxb6617027a
open Go.RowKit

set_option maxHeartbeats 400000 in
theorem readsObject_any (av : Value) (pk ik : ByteArray) (w : World) :
    Calls Try.prog 15 #[.agg #[av, .bool false, .string pk], .string ik] w fun e w' => RetV (.bool (decide (pk = ik))) w e w' := by
  by_cases h : pk = ik
  · have e1 := seq_t h
    have E := (show Hid _ from h)
    clear h
    go_enter Try.func15, Try.ntmps15
    go_wp2
    go_ret
    exact ret_v (show Value.bool true = _ from by rw [decide_eq_true E.out]) ((Below.refl _ _).alloc (Nat.le_refl _) _)
  · have e1 := seq_f h
    have E := (show Hid _ from h)
    clear h
    go_enter Try.func15, Try.ntmps15
    go_wp2
    go_ret
    exact ret_v (show Value.bool false = _ from by rw [decide_eq_false E.out]) ((Below.refl _ _).alloc (Nat.le_refl _) _)

/-- 'names[1:]' of a slice that is not empty. -/
theorem slice1 {w : World} {a : Option Addr} {ks : List ByteArray} {c : Nat} (hs : Strs w a ks) (h1 : 1 ≤ ks.length) (hc : ks.length ≤ c) :
    ∃ a', (∀ w, (Instr.slice 22 (.slice a ks.length c) (some (.int .i64 1)) none none).run Try.prog w = .ok (.slice a' ks.tail.length (c - 1)) w) ∧ Strs w a' ks.tail := by
  have ht : Try.prog.underlying 22 = some (.slice (Try.prog.elem 22)) := by kernel_rfl
  have hz : ∀ w, (Go.sizeOf (Try.prog.elem 22)).run Try.prog w = .ok 1 w := fun w => by kernel_rfl
  refine ⟨if c = 1 then a else a.map (·.add 1), fun w => ?_, ?_⟩
  · rw [run_slice_l w 22 a ks.length c ht .i64 1 (by omega) (by omega), hz]
    simp [Result.andThen, sliced, List.length_tail]
  · refine ⟨Nat.le_trans (by simp) hs.1, fun k hk => ?_⟩
    rw [List.length_tail] at hk
    obtain ⟨b, off, ha, hb, hcell, hsz⟩ := hs.2 (k + 1) (by omega)
    have e : ks.tail.getD k ByteArray.empty = ks.getD (k + 1) ByteArray.empty := by cases ks <;> simp
    rw [if_neg (by omega), e]
    refine ⟨b, off + 1, by rw [ha]; rfl, hb, ?_, hsz⟩
    have : off + 1 + k = off + (k + 1) := by omega
    rw [this]; exact hcell


theorem bcell {W w1 : World} (hb : Below W.heap.size W w1) : (∀ b o, b < W.heap.size → w1.cell? ⟨b, o, none⟩ = W.cell? ⟨b, o, none⟩) ∧ (∀ b o, b < W.heap.size → w1.frozen? ⟨b, o, none⟩ = W.frozen? ⟨b, o, none⟩) :=
  ⟨fun b o h => hb.cell (p := ⟨b, o, none⟩) h, fun b o h => hb.frozen (p := ⟨b, o, none⟩) h⟩

theorem below3 (w : World) (o1 o2 o3 : Obj) : Below w.heap.size w (((w.alloc o1).alloc o2).alloc o3) :=
  (((Below.refl _ _).alloc (Nat.le_refl _) _).alloc (by simp) _).alloc (by simp; omega) _

/-- The text, the list that a state gives. -/
def textOf (t t2 : ByteArray) (st : Int) : ByteArray := if st = 2 then t else if st = 4 then t2 else ByteArray.empty
def listOf (lv : Value) (st : Int) : Value := if st = 3 then lv else .slice none 0 0

theorem assert_list (m m1 : Nat) (t : ByteArray) (lv : Value) (t2 : ByteArray) (st : Int) : ∃ b, ∀ w, (Instr.typeAssert (valOf m m1 t lv t2 st) 20 22 true).run Try.prog w = .ok (.tuple #[listOf lv st, .bool b]) w := by
  unfold valOf listOf
  by_cases h0 : st = 0
  · subst h0; exact ⟨false, fun w => by kernel_rfl⟩
  rw [if_neg h0]
  by_cases h1 : st = 1
  · subst h1; exact ⟨false, fun w => by kernel_rfl⟩
  rw [if_neg h1]
  by_cases h2 : st = 2
  · subst h2; exact ⟨false, fun w => by kernel_rfl⟩
  rw [if_neg h2]
  by_cases h3 : st = 3
  · subst h3; exact ⟨true, fun w => by kernel_rfl⟩
  rw [if_neg h3, if_neg h3]
  by_cases h4 : st = 4
  · subst h4; exact ⟨false, fun w => by kernel_rfl⟩
  rw [if_neg h4]; exact ⟨false, fun w => by kernel_rfl⟩

theorem assert_text (m m1 : Nat) (t : ByteArray) (lv : Value) (t2 : ByteArray) (st : Int) : ∃ b, ∀ w, (Instr.typeAssert (valOf m m1 t lv t2 st) 20 9 true).run Try.prog w = .ok (.tuple #[.string (textOf t t2 st), .bool b]) w := by
  unfold valOf textOf
  by_cases h0 : st = 0
  · subst h0; exact ⟨false, fun w => by kernel_rfl⟩
  rw [if_neg h0]
  by_cases h1 : st = 1
  · subst h1; exact ⟨false, fun w => by kernel_rfl⟩
  rw [if_neg h1]
  by_cases h2 : st = 2
  · subst h2; exact ⟨true, fun w => by kernel_rfl⟩
  rw [if_neg h2, if_neg h2]
  by_cases h3 : st = 3
  · subst h3; exact ⟨false, fun w => by kernel_rfl⟩
  rw [if_neg h3]
  by_cases h4 : st = 4
  · subst h4; exact ⟨true, fun w => by kernel_rfl⟩
  rw [if_neg h4, if_neg h4]; exact ⟨false, fun w => by kernel_rfl⟩

theorem listOf_slice (al : Option Addr) (n c : Nat) (st : Int) : ∃ la ln lc, listOf (.slice al n c) st = .slice la ln lc := by
  unfold listOf
  split <;> exact ⟨_, _, _, rfl⟩

/-- The result's block behind a call that made memory of its own. -/
theorem read_cells {w w1 : World} {o1 o2 : Obj} {u0 u1 : Value} {T : TypeId} (hb : Below (((w.alloc o1).alloc o2).alloc (.cells #[u0, u1] T)).heap.size (((w.alloc o1).alloc o2).alloc (.cells #[u0, u1] T)) w1) :
    w1.cell? ⟨w.heap.size + 1 + 1, 0, none⟩ = some u0 ∧ w1.cell? ⟨w.heap.size + 1 + 1, 1, none⟩ = some u1 ∧ w1.frozen? ⟨w.heap.size + 1 + 1, 0, none⟩ = false ∧ w1.frozen? ⟨w.heap.size + 1 + 1, 1, none⟩ = false := by
  have hh : w1.heap[w.heap.size + 1 + 1]? = some (.cells #[u0, u1] T) := by
    rw [hb.block _ (by simp)]
    have := heap_alloc_new ((w.alloc o1).alloc o2) (.cells #[u0, u1] T)
    have e : ((w.alloc o1).alloc o2).heap.size = w.heap.size + 1 + 1 := by simp
    rwa [e] at this
  refine ⟨?_, ?_, ?_, ?_⟩ <;> simp [World.cell?, World.frozen?, hh]

theorem two_cells {w1 : World} {g : Nat} {u0 u1 : Value} (v0 v1 : Value) (h0 : w1.cell? ⟨g, 0, none⟩ = some u0) (h1 : w1.cell? ⟨g, 1, none⟩ = some u1) :
    ((w1.setCell ⟨g, 0, none⟩ v0).setCell ⟨g, 1, none⟩ v1).cell? ⟨g, 0, none⟩ = some v0 ∧ ((w1.setCell ⟨g, 0, none⟩ v0).setCell ⟨g, 1, none⟩ v1).cell? ⟨g, 1, none⟩ = some v1 := by
  constructor
  · rw [World.cell?_setCell_other _ _ _ _ (by simp), World.cell?_setCell_same _ _ _ h0]
  · rw [World.cell?_setCell_same _ _ _ (u := u1)]
    rw [World.cell?_setCell_other _ _ _ _ (by simp)]; exact h1

theorem read_below {w w1 : World} {o1 o2 o3 : Obj} (hb : Below (((w.alloc o1).alloc o2).alloc o3).heap.size (((w.alloc o1).alloc o2).alloc o3) w1) (v0 v1 : Value) :
    Below w.heap.size w ((w1.setCell ⟨w.heap.size + 1 + 1, 0, none⟩ v0).setCell ⟨w.heap.size + 1 + 1, 1, none⟩ v1) :=
  (((below3 w o1 o2 o3).trans (hb.mono (by simp; omega))).setCell (by simp; omega) _).setCell (by simp; omega) _

set_option maxHeartbeats 1000000 in
theorem read_asker_list (a : Option Addr) (ks : List ByteArray) (cap : Nat) (pk ik : ByteArray) (kt t kl : ByteArray) (al : Option Addr) (n c : Nat) (kn km t2 : ByteArray) (m m1 : Nat) (w : World) (hs : Strs w a ks) (hd : DocAt w kt t kl (.slice al n c) kn km t2 m m1) :
    Calls Try.prog 12 #[.agg #[.slice a ks.length cap, .bool true, .string pk], .agg #[.map (some m), .map (some m), .string ik], .int .i64 1] w
      fun e w' => RetV (.agg #[.string ByteArray.empty, listOf (.slice al n c) (walkI kt kl kn km ks)]) w e w' := by
  have HS := (show Hid _ from And.intro hs hd)
  clear hs hd
  obtain ⟨lb, hlb⟩ := assert_list m m1 t (.slice al n c) t2 (walkI kt kl kn km ks)
  obtain ⟨la, ln, lc, hll⟩ := listOf_slice al n c (walkI kt kl kn km ks)
  rw [hll] at hlb ⊢
  clear hll
  go_enter Try.func12, Try.ntmps12
  go_wp2_with (go_at_call 14; refine (lookup_any a ks cap kt t kl (.slice al n c) kn km t2 m m1 _ (HS.out.1.below (below3 _ _ _ _)) (HS.out.2.below (below3 _ _ _ _))).mono ?_; rintro e w1 ⟨rfl, hb⟩; obtain ⟨c0, c1, f0, f1⟩ := read_cells hb)
  obtain ⟨d0, d1⟩ := two_cells (.string ⟨#[]⟩) (.slice la ln lc) c0 c1
  exact bodyPost_ret (v := .agg #[.string ⟨#[]⟩, .slice la ln lc]) (by simp [results, Try.results12, go_sem, d0, d1]) rfl ⟨rfl, read_below hb _ _⟩

set_option maxHeartbeats 1000000 in
theorem read_asker_text (a : Option Addr) (ks : List ByteArray) (cap : Nat) (pk ik : ByteArray) (kt t kl : ByteArray) (al : Option Addr) (n c : Nat) (kn km t2 : ByteArray) (m m1 : Nat) (ta : Int) (hta : ¬ ta = 1) (w : World) (hs : Strs w a ks) (hd : DocAt w kt t kl (.slice al n c) kn km t2 m m1) :
    Calls Try.prog 12 #[.agg #[.slice a ks.length cap, .bool true, .string pk], .agg #[.map (some m), .map (some m), .string ik], .int .i64 ta] w
      fun e w' => RetV (.agg #[.string (textOf t t2 (walkI kt kl kn km ks)), .slice none 0 0]) w e w' := by
  have HS := (show Hid _ from And.intro hs hd)
  have e1 : (ta == 1) = false := by simp [hta]
  clear hs hd hta
  obtain ⟨lb, hlb⟩ := assert_text m m1 t (.slice al n c) t2 (walkI kt kl kn km ks)
  generalize textOf t t2 (walkI kt kl kn km ks) = tx at *
  go_enter Try.func12, Try.ntmps12
  go_wp2_with (go_at_call 14; refine (lookup_any a ks cap kt t kl (.slice al n c) kn km t2 m m1 _ (HS.out.1.below (below3 _ _ _ _)) (HS.out.2.below (below3 _ _ _ _))).mono ?_; rintro e w1 ⟨rfl, hb⟩; obtain ⟨c0, c1, f0, f1⟩ := read_cells hb)
  obtain ⟨d0, d1⟩ := two_cells (.string tx) (.slice none 0 0) c0 c1
  exact bodyPost_ret (v := .agg #[.string tx, .slice none 0 0]) (by simp [results, Try.results12, go_sem, d0, d1]) rfl ⟨rfl, read_below hb _ _⟩

theorem assert_nil_list (w : World) : (Instr.typeAssert .nilIface 20 22 true).run Try.prog w = .ok (.tuple #[.slice none 0 0, .bool false]) w := by kernel_rfl
theorem assert_nil_text (w : World) : (Instr.typeAssert .nilIface 20 9 true).run Try.prog w = .ok (.tuple #[.string ⟨#[]⟩, .bool false]) w := by kernel_rfl

set_option maxHeartbeats 1000000 in
theorem read_off_list (a : Option Addr) (ln cap : Nat) (pk ik : ByteArray) (hpi : ¬ pk = ik) (m : Nat) (w : World) :
    Calls Try.prog 12 #[.agg #[.slice a ln cap, .bool false, .string pk], .agg #[.map (some m), .map (some m), .string ik], .int .i64 1] w
      fun e w' => RetV (.agg #[.string ByteArray.empty, .slice none 0 0]) w e w' := by
  have hd := decide_eq_false hpi
  have ha := assert_nil_list
  clear hpi
  go_enter Try.func12, Try.ntmps12
  go_wp2_with (go_at_call 15; refine (readsObject_any (.slice a ln cap) pk ik _).mono ?_; rintro e w1 ⟨rfl, hb⟩; obtain ⟨c0, c1, f0, f1⟩ := read_cells hb)
  obtain ⟨d0, d1⟩ := two_cells (.string ⟨#[]⟩) (.slice none 0 0) c0 c1
  exact bodyPost_ret (v := .agg #[.string ⟨#[]⟩, .slice none 0 0]) (by simp [results, Try.results12, go_sem, d0, d1]) rfl ⟨rfl, read_below hb _ _⟩

set_option maxHeartbeats 1000000 in
theorem read_off_text (a : Option Addr) (ln cap : Nat) (pk ik : ByteArray) (hpi : ¬ pk = ik) (m : Nat) (ta : Int) (hta : ¬ ta = 1) (w : World) :
    Calls Try.prog 12 #[.agg #[.slice a ln cap, .bool false, .string pk], .agg #[.map (some m), .map (some m), .string ik], .int .i64 ta] w
      fun e w' => RetV (.agg #[.string ByteArray.empty, .slice none 0 0]) w e w' := by
  have hd := decide_eq_false hpi
  have ha := assert_nil_text
  have e1 : (ta == 1) = false := by simp [hta]
  clear hpi hta
  go_enter Try.func12, Try.ntmps12
  go_wp2_with (go_at_call 15; refine (readsObject_any (.slice a ln cap) pk ik _).mono ?_; rintro e w1 ⟨rfl, hb⟩; obtain ⟨c0, c1, f0, f1⟩ := read_cells hb)
  obtain ⟨d0, d1⟩ := two_cells (.string ⟨#[]⟩) (.slice none 0 0) c0 c1
  exact bodyPost_ret (v := .agg #[.string ⟨#[]⟩, .slice none 0 0]) (by simp [results, Try.results12, go_sem, d0, d1]) rfl ⟨rfl, read_below hb _ _⟩

/-- The two boxed structs behind a call. -/
theorem read_boxes {w w1 : World} {x0 x1 x2 y0 y1 y2 : Value} {T U : TypeId} {o3 : Obj} (hb : Below (((w.alloc (.cells #[x0, x1, x2] T)).alloc (.cells #[y0, y1, y2] U)).alloc o3).heap.size (((w.alloc (.cells #[x0, x1, x2] T)).alloc (.cells #[y0, y1, y2] U)).alloc o3) w1) :
    w1.cell? ⟨w.heap.size, 0, none⟩ = some x0 ∧ w1.cell? ⟨w.heap.size + 1, 1, none⟩ = some y1 := by
  have h0 : w1.heap[w.heap.size]? = some (.cells #[x0, x1, x2] T) := by
    rw [hb.block _ (by simp; omega), heap_alloc_old _ _ (by simp; omega), heap_alloc_old _ _ (by simp), heap_alloc_new]
  have h1 : w1.heap[w.heap.size + 1]? = some (.cells #[y0, y1, y2] U) := by
    rw [hb.block _ (by simp), heap_alloc_old _ _ (by simp)]
    have := heap_alloc_new (w.alloc (.cells #[x0, x1, x2] T)) (.cells #[y0, y1, y2] U)
    have e : (w.alloc (.cells #[x0, x1, x2] T)).heap.size = w.heap.size + 1 := by simp
    rwa [e] at this
  refine ⟨?_, ?_⟩ <;> simp [World.cell?, h0, h1]

theorem read_mid {w w1 : World} {o1 o2 o3 : Obj} (hb : Below (((w.alloc o1).alloc o2).alloc o3).heap.size (((w.alloc o1).alloc o2).alloc o3) w1) : Below w.heap.size w w1 :=
  (below3 w o1 o2 o3).trans (hb.mono (by simp; omega))

end Go.Proofs.Qxb6617027a
