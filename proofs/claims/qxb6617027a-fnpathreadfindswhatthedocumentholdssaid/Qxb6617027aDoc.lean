/-
  Seat b6617027a: the document that ZZdoc3 builds: two maps.
-/
import Derived.Test.Qxb6617027aSame
import Derived.Maps.Own
import Derived.Maps.OwnOps
import Derived.Maps.Views
import Derived.StringKeys
namespace Go.Proofs.Qxb6617027a
open Go.RowKit
open Go.Maps Go.WideMaps Go.WideElems

/-- An element reads as itself. -/
def RH (v : Value) : Option (DataW Value × List MemPlace) := some (.held v, [])
theorem law : Keyed Try.prog 9 := string_keyed Try.underlying9
theorem zero20 (w : World) : (zeroValue 20).run Try.prog w = .ok .nilIface w := by kernel_rfl

/-- The composite literal's store into a map goes by the same law as 'm[k] = v'. -/
theorem wpList_insert_own {H : Type} {P : Program} (w : World) {ops : Array Oper} {rest : List Oper} {o : Oper} {a : Act} {Q : Exit → Act → World → Prop}
    (hg : o.guard = none) (m x v : Operand) (t : TypeId) (hop : o.op = Op.insert t m x v)
    (k e : TypeId) (K : Keyed P k) (ht : P.underlying t = some (.map k e)) (R : Value → Option (DataW H × List MemPlace)) (b n : Nat) (D : DataW H)
    (hm : a.eval m = .map (some b)) (hown : w.ownsMap P k R b n D) (hn : n < maxLen) (key val : Value) (kl : Lit) (hx : a.eval x = key) (hv : a.eval v = val) (hkey : keyOf P k key = some kl)
    (d : DataW H) (ps : List MemPlace) (hval : R val = some (d, ps))
    (hK : ∀ w', w'.ownsMap P k R b (n + 1) (D.put kl d) → w.grownBy w' (some b) → wpList P ops Q rest (a.put o.dst undef) w') :
    wpList P ops Q (o :: rest) a w := by
  refine wpList_plain hg fun K' hK' => ?_
  obtain ⟨w', hrun, r1, r2⟩ := hown.update K ht hn hkey hval
  unfold Oper.wp
  simp [execOp, hop, hm, hx, hv, hrun, Result.andThen]
  exact hK' _ _ (hK w' r1 r2)

/-- The top map, and the nested one, as data. -/
def DocD (kt t kl : ByteArray) (lv : Value) (kn : ByteArray) (m1 : Nat) : DataW Value :=
  (((DataW.map []).put (.string kt.data.toList) (.held (.iface 9 (.string t)))).put (.string kl.data.toList) (.held (.iface 22 lv))).put (.string kn.data.toList) (.held (.iface 27 (.map (some m1))))
def DocN (km t2 : ByteArray) : DataW Value := (DataW.map []).put (.string km.data.toList) (.held (.iface 9 (.string t2)))
def DocAt (w : World) (kt t kl : ByteArray) (lv : Value) (kn km t2 : ByteArray) (m m1 : Nat) : Prop :=
  w.ownsMap Try.prog 9 RH m 3 (DocD kt t kl lv kn m1) ∧ w.ownsMap Try.prog 9 RH m1 1 (DocN km t2)

def DocP (kt t kl : ByteArray) (lv : Value) (kn km t2 : ByteArray) (w : World) (e : Ending) (w' : World) : Prop :=
  ∃ m m1, e = .returned (.agg #[.map (some m)]) ∧ DocAt w' kt t kl lv kn km t2 m m1 ∧ Below w.heap.size w w'

theorem kept_block {w w' : World} {row : Option Nat} (g : w.grownBy w' row) {k : Nat} {o : Obj} (h : w.heap[k]? = some o) (hne : some k ≠ row) : w'.heap[k]? = some o := (g.block k (lt_of_block h) hne).trans h

theorem made1 (w : World) (o : Obj) : ((w.alloc o).alloc (.map #[] 0)).ownsMap Try.prog 9 RH (w.heap.size + 1) 0 (.map []) := by
  have h := World.ownsMap_made (w.alloc o) Try.prog 9 RH
  have e : (w.alloc o).heap.size = w.heap.size + 1 := by simp
  rwa [e] at h

/-- The result's cell lies untouched behind the four stores. -/
theorem doc_block {w w1 w2 w3 w4 : World} {o : Obj} (g1 : ((w.alloc o).alloc (.map #[] 0)).grownBy w1 (some (w.heap.size + 1))) (g2 : w1.grownBy w2 (some (w.heap.size + 1)))
    (g3 : (w2.alloc (.map #[] 0)).grownBy w3 (some w2.heap.size)) (g4 : w3.grownBy w4 (some (w.heap.size + 1))) (hlt : w.heap.size + 1 < w2.heap.size) : w4.heap[w.heap.size]? = some o := by
  have b0 : ((w.alloc o).alloc (.map #[] 0)).heap[w.heap.size]? = some o := by
    rw [heap_alloc_old _ _ (by simp), heap_alloc_new]
  have b1 := kept_block g1 b0 (by simp)
  have b2 := kept_block g2 b1 (by simp)
  have b3 : (w2.alloc (.map #[] 0)).heap[w.heap.size]? = some o := by rw [heap_alloc_old _ _ (by omega)]; exact b2
  exact kept_block g4 (kept_block g3 b3 (by simp; omega)) (by simp)

theorem doc_below {w w1 w2 w3 w4 : World} {o : Obj} (g1 : ((w.alloc o).alloc (.map #[] 0)).grownBy w1 (some (w.heap.size + 1))) (g2 : w1.grownBy w2 (some (w.heap.size + 1)))
    (g3 : (w2.alloc (.map #[] 0)).grownBy w3 (some w2.heap.size)) (g4 : w3.grownBy w4 (some (w.heap.size + 1))) (hlt : w.heap.size + 1 < w2.heap.size) : Below w.heap.size w w4 := by
  have s1 := g1.size
  have s2 := g2.size
  have s3 := g3.size
  simp at s1 s3
  have b0 : Below w.heap.size w ((w.alloc o).alloc (.map #[] 0)) := ((Below.refl _ _).alloc (Nat.le_refl _) _).alloc (by simp) _
  have b1 := b0.grown g1 (by simp; omega) (fun k hk => by cases hk; omega)
  have b2 := b1.grown g2 (by omega) (fun k hk => by cases hk; omega)
  have b3 := (b2.alloc (by omega) (.map #[] 0)).grown g3 (by simp; omega) (fun k hk => by cases hk; omega)
  exact b3.grown g4 (by omega) (fun k hk => by cases hk; omega)

/-- A map stays while the result's cell is written. -/
theorem doc_set {w : World} {b g n : Nat} {D : DataW Value} {o : Obj} {u : Value} (h : w.ownsMap Try.prog 9 RH b n D) (_hb : w.heap[g]? = some o) (hne : b ≠ g) : (w.setCell ⟨g, 0, none⟩ u).ownsMap Try.prog 9 RH b n D := by
  obtain ⟨es, cl, hh, r⟩ := h
  exact ⟨es, cl, by rw [Below.heap_setCell _ _ _ _ hne]; exact hh, r⟩

set_option maxHeartbeats 400000 in
theorem doc3_any (kt t kl : ByteArray) (al : Option Addr) (n c : Nat) (kn km t2 : ByteArray) (w : World) (h1 : kt.size ≤ maxLen) (h2 : kl.size ≤ maxLen) (h3 : kn.size ≤ maxLen) (h4 : km.size ≤ maxLen) :
    Calls Try.prog 8 #[.string kt, .string t, .string kl, .slice al n c, .string kn, .string km, .string t2] w fun e w' => DocP kt t kl (.slice al n c) kn km t2 w e w' := by
  have hmm := @run_makeMap Try.prog
  have k1 := (show Hid _ from keyOf_string_mk (P := Try.prog) Try.underlying9 h1)
  have k2 := (show Hid _ from keyOf_string_mk (P := Try.prog) Try.underlying9 h2)
  have k3 := (show Hid _ from keyOf_string_mk (P := Try.prog) Try.underlying9 h3)
  have k4 := (show Hid _ from keyOf_string_mk (P := Try.prog) Try.underlying9 h4)
  go_enter Try.func8, Try.ntmps8
  go_wp2_with (first | (at_mapUpdate; refine wpList_mapUpdate_own _ rfl (.tmp 17) (.tmp 18) (.tmp 20) 27 rfl 9 20 law Try.underlying27 RH (w.heap.size + 1) 0 (.map []) rfl (made1 w _) (by decide) _ (.iface 9 (.string t)) _ rfl rfl k1.out _ _ rfl ?_; intro w1 o1 g1) | (at_mapUpdate; refine wpList_mapUpdate_own _ rfl (.tmp 21) (.tmp 22) (.tmp 24) 27 rfl 9 20 law Try.underlying27 RH (w.heap.size + 1) 1 _ rfl o1 (by decide) _ (.iface 22 (.slice al n c)) _ rfl rfl k2.out _ _ rfl ?_; intro w2 o2 g2) | (refine wpList_insert_own _ rfl (.tmp 27) (.tmp 28) (.tmp 30) 27 rfl 9 20 law Try.underlying27 RH w2.heap.size 0 (.map []) rfl (World.ownsMap_made w2 Try.prog 9 RH) (by decide) _ (.iface 9 (.string t2)) _ rfl rfl k4.out _ _ rfl ?_; intro w3 o3 g3) | (at_mapUpdate; refine wpList_mapUpdate_own _ rfl (.tmp 25) (.tmp 26) (.tmp 32) 27 rfl 9 20 law Try.underlying27 RH (w.heap.size + 1) 2 _ rfl ((o2.alloc _).kept g3 (by have := o2.lt; simp; omega)) (by decide) _ (.iface 27 (.map (some w2.heap.size))) _ rfl rfl k3.out _ _ rfl ?_; intro w4 o4 g4; have hb4 := doc_block g1 g2 g3 g4 o2.lt; have hc4 := cell_of_one hb4; have hf4 := free_of_one hb4))
  have hbel := doc_below g1 g2 g3 g4 o2.lt
  have o3' := o3.kept g4 (by have := o2.lt; simp; omega)
  have hc5 := cell_of_one (one_setCell (u := .map (some (w.heap.size + 1))) hb4)
  exact bodyPost_ret (v := .agg #[.map (some (w.heap.size + 1))]) (by simp [results, Try.results8, go_sem, hc5]) rfl ⟨_, _, rfl, ⟨doc_set o4 hb4 (by simp), doc_set o3' hb4 (by have := o2.lt; omega)⟩, hbel.setCell (Nat.le_refl _) _⟩
end Go.Proofs.Qxb6617027a
