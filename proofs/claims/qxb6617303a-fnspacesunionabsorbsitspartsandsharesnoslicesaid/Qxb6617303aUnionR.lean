/-
  Seat b6617303a: the union of two lists of names, as byte arrays.
-/
import Derived.Test.Qxb6617303aPlain
import Derived.Test.Qxb6617303aHas
import Derived.Sort.OwnSorted
import Derived.Lib.RowBridge
namespace Go.Proofs.Qxb6617303a
open Go.RowKit

def mkB (l : Bs) : ByteArray := ⟨l.toArray⟩
def bytesS (ss : List ByteArray) : List Bs := ss.map fun s => s.data.toList
theorem mkB_data (s : ByteArray) : mkB s.data.toList = s := by cases s; simp [mkB]
theorem data_mkB (l : Bs) : (mkB l).data.toList = l := by simp [mkB]
theorem toList_mkB (l : Bs) : (mkB l).toList = l := by rw [ByteArray.toList_eq, data_mkB]

/-- What Union lists. -/
def unionR (xs ys : List ByteArray) : List ByteArray := (uniq (bytesS (xs ++ ys))).map mkB

theorem mem_unionR (xs ys : List ByteArray) (s : ByteArray) : s ∈ unionR xs ys ↔ s ∈ xs ++ ys := by
  unfold unionR bytesS
  rw [List.mem_map]
  constructor
  · rintro ⟨l, hl, rfl⟩
    rw [mem_uniq, List.mem_map] at hl
    obtain ⟨s, hs, rfl⟩ := hl
    rw [mkB_data]; exact hs
  · intro hs
    exact ⟨s.data.toList, by rw [mem_uniq, List.mem_map]; exact ⟨s, hs, rfl⟩, mkB_data s⟩

theorem bytesS_unionR (xs ys : List ByteArray) : bytesS (unionR xs ys) = uniq (bytesS (xs ++ ys)) := by
  unfold unionR
  generalize uniq (bytesS (xs ++ ys)) = us
  unfold bytesS
  rw [List.map_map]
  conv => rhs; rw [← List.map_id us]
  exact List.map_congr_left (fun l _ => data_mkB l)

theorem mem_bytesS {ss : List ByteArray} {l : Bs} : l ∈ bytesS ss ↔ mkB l ∈ ss := by
  unfold bytesS
  rw [List.mem_map]
  constructor
  · rintro ⟨s, hs, rfl⟩; rw [mkB_data]; exact hs
  · intro h; exact ⟨mkB l, h, data_mkB l⟩

theorem rising_of {ss : List ByteArray} (h : (bytesS ss).Pairwise (· < ·)) : Rising ss := by
  intro i j hij hj
  rw [less_eq]
  simp only [decide_eq_true_eq]
  have hi : i < ss.length := by omega
  have h1 := (List.pairwise_iff_getElem.1 h) i j (by simpa [bytesS] using hi) (by simpa [bytesS] using hj) hij
  simp only [bytesS, List.getElem_map] at h1
  rw [List.getD_eq_getElem?_getD, List.getD_eq_getElem?_getD, List.getElem?_eq_getElem hi, List.getElem?_eq_getElem hj, Option.getD_some, Option.getD_some, ByteArray.toList_eq, ByteArray.toList_eq]
  exact h1

theorem rising_unionR (xs ys : List ByteArray) : Rising (unionR xs ys) := rising_of (by rw [bytesS_unionR]; exact uniq_rising _)

theorem bytesS_inj {xs ys : List ByteArray} (h : bytesS xs = bytesS ys) : xs = ys := by
  have e : ∀ ss : List ByteArray, (bytesS ss).map mkB = ss := fun ss => by
    unfold bytesS; rw [List.map_map]
    conv => rhs; rw [← List.map_id ss]
    exact List.map_congr_left (fun s _ => mkB_data s)
  rw [← e xs, ← e ys, h]

/-- Union depends on the members alone; a list that is a union already absorbs its members. -/
theorem unionR_ext {xs ys xs' ys' : List ByteArray} (h : ∀ s, s ∈ xs ++ ys ↔ s ∈ xs' ++ ys') : unionR xs ys = unionR xs' ys' := by
  refine bytesS_inj ?_
  rw [bytesS_unionR, bytesS_unionR]
  exact uniq_ext _ _ (fun l => by rw [mem_bytesS, mem_bytesS]; exact h _)

theorem unionR_comm (xs ys : List ByteArray) : unionR xs ys = unionR ys xs := unionR_ext (fun s => by simp [or_comm])

theorem unionR_absorb (xs ys zs : List ByteArray) (h : ∀ s, s ∈ zs → s ∈ unionR xs ys) : unionR (unionR xs ys) zs = unionR xs ys := by
  refine unionR_ext (fun s => ?_)
  rw [List.mem_append, mem_unionR]
  constructor
  · rintro (h' | h')
    · exact h'
    · exact (mem_unionR _ _ _).1 (h s h')
  · exact Or.inl

theorem unionR_length_le (xs ys : List ByteArray) : (unionR xs ys).length ≤ xs.length + ys.length := by
  unfold unionR uniq bytesS
  rw [List.length_map]
  refine Nat.le_trans (Lib.compact_length_le _) ?_
  simp

end Go.Proofs.Qxb6617303a
