/-
  Seat b6617303a: plain laws: sorted and compacted lists. No Go in sight.
-/
import Derived.Lib.SlicesCompact
namespace Go.Proofs.Qxb6617303a

theorem mem_compactUpTo {α : Type} [Inhabited α] [DecidableEq α] (d : Array α) (x : α) : ∀ m, x ∈ Lib.compactUpTo d m ↔ ∃ j, j < m ∧ d[j]! = x
  | 0 => by simp [Lib.compactUpTo]
  | m + 1 => by
    rw [Lib.compactUpTo_succ, List.mem_append, mem_compactUpTo d x m]
    by_cases hk : Lib.keeps d m = true
    · rw [if_pos hk, List.mem_singleton]
      constructor
      · rintro (⟨j, hj, e⟩ | e)
        · exact ⟨j, by omega, e⟩
        · exact ⟨m, by omega, e.symm⟩
      · rintro ⟨j, hj, e⟩
        by_cases h : j = m
        · subst h; exact .inr e.symm
        · exact .inl ⟨j, by omega, e⟩
    · rw [if_neg hk]
      have hk' : ¬ (m = 0 ∨ d[m]! ≠ d[m - 1]!) := by simpa [Lib.keeps] using hk
      have hm : 0 < m := Nat.pos_of_ne_zero (fun h => hk' (Or.inl h))
      have he : d[m]! = d[m - 1]! := by
        rcases Classical.em (d[m]! = d[m - 1]!) with h | h
        · exact h
        · exact absurd (Or.inr h) hk'
      constructor
      · rintro (⟨j, hj, e⟩ | e)
        · exact ⟨j, by omega, e⟩
        · cases e
      · rintro ⟨j, hj, e⟩
        by_cases h : j = m
        · subst h; exact .inl ⟨j - 1, by omega, by rw [← he]; exact e⟩
        · exact .inl ⟨j, by omega, e⟩

theorem mem_compact {α : Type} [Inhabited α] [DecidableEq α] (zs : List α) (x : α) : x ∈ Lib.compact zs ↔ x ∈ zs := by
  unfold Lib.compact
  rw [mem_compactUpTo, List.mem_iff_getElem]
  constructor
  · rintro ⟨j, hj, e⟩
    exact ⟨j, hj, by rw [← e, getElem!_pos _ j (by simpa using hj)]; rfl⟩
  · rintro ⟨j, hj, e⟩
    exact ⟨j, hj, by rw [getElem!_pos _ j (by simpa using hj)]; exact e⟩

/-- Byte strings in their order. -/
abbrev Bs := List UInt8

theorem le_of_le {x y z : Bs} (h1 : x ≤ y) (h2 : y ≤ z) : x ≤ z := List.le_trans h1 h2
theorem lt_of_le_ne {x y : Bs} (h : x ≤ y) (hne : y ≠ x) : x < y := by
  rcases Classical.em (x < y) with h' | h'
  · exact h'
  · exact absurd (List.le_antisymm h (fun e => h' e)).symm hne

theorem pairwise_compactUpTo (d : Array Bs) (hd : ∀ i j, i ≤ j → j < d.size → d[i]! ≤ d[j]!) : ∀ m, m ≤ d.size → (Lib.compactUpTo d m).Pairwise (· < ·)
  | 0, _ => by simp [Lib.compactUpTo]
  | m + 1, hm => by
    rw [Lib.compactUpTo_succ]
    have ih := pairwise_compactUpTo d hd m (by omega)
    by_cases hk : Lib.keeps d m = true
    · rw [if_pos hk, List.pairwise_append]
      refine ⟨ih, List.pairwise_singleton _ _, fun x hx y hy => ?_⟩
      rw [List.mem_singleton] at hy
      subst hy
      obtain ⟨j, hj, rfl⟩ := (mem_compactUpTo d x m).1 hx
      have hk' : m = 0 ∨ d[m]! ≠ d[m - 1]! := by simpa [Lib.keeps] using hk
      rcases hk' with h | h
      · omega
      · exact List.lt_of_le_of_lt (hd j (m - 1) (by omega) (by omega)) (lt_of_le_ne (hd (m - 1) m (by omega) (by omega)) h)
    · rw [if_neg hk, List.append_nil]; exact ih

/-- Go's sort and compaction. -/
def uniq (zs : List Bs) : List Bs := Lib.compact (zs.mergeSort fun x y => decide (x ≤ y))

theorem sorted_mergeSort (zs : List Bs) : (zs.mergeSort fun x y => decide (x ≤ y)).Pairwise fun x y => x ≤ y := by
  have h := List.pairwise_mergeSort (le := fun x y : Bs => decide (x ≤ y)) (fun a b c h1 h2 => by simp only [decide_eq_true_eq] at *; exact le_of_le h1 h2) (fun a b => by simp only [Bool.or_eq_true, decide_eq_true_eq]; exact List.le_total a b) zs
  rw [List.pairwise_iff_getElem] at h ⊢
  exact fun i j hi hj hij => of_decide_eq_true (h i j hi hj hij)

theorem uniq_rising (zs : List Bs) : (uniq zs).Pairwise (· < ·) := by
  unfold uniq Lib.compact
  refine pairwise_compactUpTo _ (fun i j hij hj => ?_) _ (by simp)
  have hs := sorted_mergeSort zs
  have hj' : j < (zs.mergeSort fun x y => decide (x ≤ y)).length := by simpa using hj
  rw [getElem!_pos _ i (by simp only [List.size_toArray]; omega), getElem!_pos _ j (by simpa using hj)]
  rcases Nat.lt_or_ge i j with h | h
  · exact (List.pairwise_iff_getElem.1 hs) i j (by omega) hj' h
  · obtain rfl : i = j := by omega
    exact List.le_refl _

theorem mem_uniq (zs : List Bs) (x : Bs) : x ∈ uniq zs ↔ x ∈ zs := by
  unfold uniq
  rw [mem_compact, List.mem_mergeSort]

/-- Two strictly rising lists of the same members are one. -/
theorem rising_ext : ∀ (xs ys : List Bs), xs.Pairwise (· < ·) → ys.Pairwise (· < ·) → (∀ x, x ∈ xs ↔ x ∈ ys) → xs = ys
  | [], [], _, _, _ => rfl
  | [], y :: ys, _, _, h => absurd ((h y).2 (by simp)) (by simp)
  | x :: xs, [], _, _, h => absurd ((h x).1 (by simp)) (by simp)
  | x :: xs, y :: ys, hx, hy, h => by
    rw [List.pairwise_cons] at hx hy
    have e : x = y := by
      rcases List.mem_cons.1 ((h x).1 (by simp)) with e | e
      · exact e
      · rcases List.mem_cons.1 ((h y).2 (by simp)) with e' | e'
        · exact e'.symm
        · exact absurd (hx.1 y e') (List.lt_asymm (hy.1 x e))
    subst e
    rw [rising_ext xs ys hx.2 hy.2 (fun z => ?_)]
    constructor
    · intro hz
      rcases List.mem_cons.1 ((h z).1 (by simp [hz])) with e | e
      · subst e; exact absurd (hx.1 z hz) (List.lt_irrefl z)
      · exact e
    · intro hz
      rcases List.mem_cons.1 ((h z).2 (by simp [hz])) with e | e
      · subst e; exact absurd (hy.1 z hz) (List.lt_irrefl z)
      · exact e

theorem uniq_ext (xs ys : List Bs) (h : ∀ x, x ∈ xs ↔ x ∈ ys) : uniq xs = uniq ys :=
  rising_ext _ _ (uniq_rising xs) (uniq_rising ys) (fun x => by rw [mem_uniq, mem_uniq]; exact h x)

theorem uniq_of_rising (xs ys : List Bs) (hx : xs.Pairwise (· < ·)) (h : ∀ x, x ∈ ys ↔ x ∈ xs) : uniq ys = xs :=
  rising_ext _ _ (uniq_rising ys) hx (fun x => by rw [mem_uniq]; exact h x)

end Go.Proofs.Qxb6617303a
