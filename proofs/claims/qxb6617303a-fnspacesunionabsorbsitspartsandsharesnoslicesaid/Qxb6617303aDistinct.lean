/-
  Seat b6617303a: nameAt, distinctNames; a clone whose room is told.
-/
import Derived.Test.Qxb6617303aCommAll
namespace Go.Proofs.Qxb6617303a
open Go.RowKit

/-- The names that stand at no earlier place, of the first k. -/
def firsts (l : List ByteArray) : Nat → List ByteArray
  | 0 => []
  | k + 1 => if hasB (l.take k) (l.getD k ByteArray.empty) = true then firsts l k else firsts l k ++ [l.getD k ByteArray.empty]

theorem mem_of_hasB {ss : List ByteArray} {x : ByteArray} (h : hasB ss x = true) : x ∈ ss := by
  unfold hasB at h
  rw [List.any_eq_true] at h
  obtain ⟨y, hy, e⟩ := h
  rw [decide_eq_true_eq] at e
  exact e ▸ hy

theorem take_snoc (l : List ByteArray) (k : Nat) (h : k < l.length) : l.take (k + 1) = l.take k ++ [l.getD k ByteArray.empty] := by
  rw [List.take_succ_eq_append_getElem h, List.getD_eq_getElem?_getD, List.getElem?_eq_getElem h]; rfl

theorem firsts_old (l : List ByteArray) (k : Nat) (h : l.getD k ByteArray.empty ∈ l.take k) : (firsts l (k + 1)).length = (firsts l k).length := by
  rw [firsts, if_pos (hasB_t h)]
theorem firsts_new (l : List ByteArray) (k : Nat) (h : l.getD k ByteArray.empty ∉ l.take k) : (firsts l (k + 1)).length = (firsts l k).length + 1 := by
  rw [firsts, if_neg (by rw [hasB_f h]; simp), List.length_append]; rfl

theorem firsts_spec (l : List ByteArray) (k : Nat) (h : k ≤ l.length) : (firsts l k).Nodup ∧ (∀ s, s ∈ firsts l k ↔ s ∈ l.take k) ∧ (firsts l k).length ≤ k := by
  induction k with
  | zero => simp [firsts]
  | succ k ih =>
    obtain ⟨h1, h2, h3⟩ := ih (by omega)
    rw [firsts, take_snoc l k (by omega)]
    split
    · rename_i hx
      refine ⟨h1, fun s => ?_, by omega⟩
      rw [h2 s, List.mem_append, List.mem_singleton]
      constructor
      · exact Or.inl
      · rintro (h' | rfl)
        · exact h'
        · exact mem_of_hasB hx
    · rename_i hx
      refine ⟨?_, fun s => ?_, by rw [List.length_append]; simp; omega⟩
      · rw [List.nodup_append]
        refine ⟨h1, by simp, fun a ha b hb => ?_⟩
        rw [List.mem_singleton] at hb
        rintro rfl
        exact hx (hasB_t (hb ▸ (h2 a).1 ha))
      · rw [List.mem_append, List.mem_append, h2 s]

theorem nodup_le {xs : List ByteArray} : ∀ {ys : List ByteArray}, xs.Nodup → (∀ s, s ∈ xs → s ∈ ys) → xs.length ≤ ys.length := by
  induction xs with
  | nil => intro ys _ _; simp
  | cons x r ih =>
    intro ys hn hs
    rw [List.nodup_cons] at hn
    obtain ⟨p, q, rfl⟩ := List.append_of_mem (hs x (by simp))
    have h1 := ih (ys := p ++ q) hn.2 (fun s h => by
      have h2 := hs s (by simp [h])
      rw [List.mem_append, List.mem_cons] at h2
      rw [List.mem_append]
      rcases h2 with h2 | h2 | h2
      · exact Or.inl h2
      · exact absurd (h2 ▸ h) hn.1
      · exact Or.inr h2)
    rw [List.length_append] at h1
    rw [List.length_cons, List.length_append, List.length_cons]
    omega

theorem nodup_unionR (xs ys : List ByteArray) : (unionR xs ys).Nodup := by
  have h : (bytesS (unionR xs ys)).Pairwise (· < ·) := by rw [bytesS_unionR]; exact uniq_rising _
  rw [List.nodup_iff_pairwise_ne, List.pairwise_iff_getElem]
  intro i j hi hj hij e
  have h1 := List.pairwise_iff_getElem.1 h i j (by simpa [bytesS] using hi) (by simpa [bytesS] using hj) hij
  simp only [bytesS, List.getElem_map] at h1
  rw [e] at h1
  exact absurd h1 (List.lt_irrefl _)

/-- The union lists as many names as there are distinct ones. -/
theorem firsts_union (xs ys : List ByteArray) : (firsts (xs ++ ys) (xs.length + ys.length)).length = (unionR xs ys).length := by
  obtain ⟨h1, h2, _⟩ := firsts_spec (xs ++ ys) (xs.length + ys.length) (by rw [List.length_append]; exact Nat.le_refl _)
  have h3 : ∀ s, s ∈ firsts (xs ++ ys) (xs.length + ys.length) ↔ s ∈ unionR xs ys := fun s => by
    rw [h2 s, mem_unionR, List.take_of_length_le (by rw [List.length_append]; exact Nat.le_refl _)]
  exact Nat.le_antisymm (nodup_le h1 (fun s h => (h3 s).1 h)) (nodup_le (nodup_unionR xs ys) (fun s h => (h3 s).2 h))

def RetS (x : ByteArray) (w : World) (e : Ending) (w' : World) : Prop := e = .returned (.string x) ∧ w' = w

set_option maxHeartbeats 400000 in
theorem nameAt_left (aA : Option Addr) (sA : List ByteArray) (cA : Nat) (aB : Option Addr) (sB : List ByteArray) (cB k : Nat) (w : World) (hA : Strs w aA sA) (hk : k < sA.length) :
    Calls Try.prog 17 #[.slice aA sA.length cA, .slice aB sB.length cB, .int .i64 (k : Int)] w fun e w' => RetS (sA.getD k ByteArray.empty) w e w' := by
  obtain ⟨b, off, rfl, _, hcell, _⟩ := hA.2 k hk
  have hl := hA.1
  unfold maxLen at hl
  clear hA
  have hki : (k : Int) < (sA.length : Int) := by omega
  generalize sA.getD k ByteArray.empty = x at *
  go_enter Try.func17, Try.ntmps17
  go_wp2
  go_ret
  exact ⟨rfl, rfl⟩

set_option maxHeartbeats 400000 in
theorem nameAt_right (aA : Option Addr) (sA : List ByteArray) (cA : Nat) (aB : Option Addr) (sB : List ByteArray) (cB m k : Nat) (w : World) (hB : Strs w aB sB) (hla : sA.length ≤ 1048576) (hm : m < sB.length) (hk : k = sA.length + m) :
    Calls Try.prog 17 #[.slice aA sA.length cA, .slice aB sB.length cB, .int .i64 (k : Int)] w fun e w' => RetS (sB.getD m ByteArray.empty) w e w' := by
  obtain ⟨b, off, rfl, _, hcell, _⟩ := hB.2 m hm
  have hl := hB.1
  unfold maxLen at hl
  clear hB
  have hki : ¬ (k : Int) < (sA.length : Int) := by omega
  have hkm : (k : Int) - (sA.length : Int) = (m : Int) := by omega
  clear hk
  generalize sB.getD m ByteArray.empty = x at *
  go_enter Try.func17, Try.ntmps17
  go_wp2
  go_ret
  exact ⟨rfl, rfl⟩

theorem nameAt_any (aA : Option Addr) (sA : List ByteArray) (cA : Nat) (aB : Option Addr) (sB : List ByteArray) (cB k : Nat) (w : World) (hA : Strs w aA sA) (hB : Strs w aB sB) (hla : sA.length ≤ 1048576) (hk : k < sA.length + sB.length) :
    Calls Try.prog 17 #[.slice aA sA.length cA, .slice aB sB.length cB, .int .i64 (k : Int)] w fun e w' => RetS ((sA ++ sB).getD k ByteArray.empty) w e w' := by
  by_cases h : k < sA.length
  · have e : (sA ++ sB).getD k ByteArray.empty = sA.getD k ByteArray.empty := by
      rw [List.getD_eq_getElem?_getD, List.getD_eq_getElem?_getD, List.getElem?_append_left h]
    rw [e]
    exact nameAt_left aA sA cA aB sB cB k w hA h
  · have e : (sA ++ sB).getD k ByteArray.empty = sB.getD (k - sA.length) ByteArray.empty := by
      rw [List.getD_eq_getElem?_getD, List.getD_eq_getElem?_getD, List.getElem?_append_right (by omega)]
    rw [e]
    exact nameAt_right aA sA cA aB sB cB (k - sA.length) k w hB hla (by omega) (by omega)

def RetI (n : Nat) (w : World) (e : Ending) (w' : World) : Prop := e = .returned (.int .i64 (n : Int)) ∧ w' = w

set_option maxHeartbeats 1000000 in
theorem distinct_any (aA : Option Addr) (sA : List ByteArray) (cA : Nat) (aB : Option Addr) (sB : List ByteArray) (cB : Nat) (w : World) (hA : Strs w aA sA) (hB : Strs w aB sB) (hla : sA.length ≤ 4096) (hlb : sB.length ≤ 4096) (l : List ByteArray) (hl : l = sA ++ sB) :
    Calls Try.prog 10 #[.slice aA sA.length cA, .slice aB sB.length cB] w fun e w' => RetI (firsts l (sA.length + sB.length)).length w e w' := by
  have HN : Hid (∀ k w, Strs w aA sA → Strs w aB sB → k < sA.length + sB.length → Calls Try.prog 17 #[.slice aA sA.length cA, .slice aB sB.length cB, .int .i64 (k : Int)] w fun e w' => RetS (l.getD k ByteArray.empty) w e w') := by
    rw [hl]; exact fun k w h1 h2 h3 => nameAt_any aA sA cA aB sB cB k w h1 h2 (by omega) h3
  have hlen : l.length = sA.length + sB.length := by rw [hl, List.length_append]
  clear hl
  have HA := (show Hid _ from And.intro hA hB)
  clear hA hB
  obtain ⟨N, hN⟩ : ∃ N : Nat, N = sA.length + sB.length := ⟨_, rfl⟩
  have hNi : (sA.length : Int) + (sB.length : Int) = (N : Int) := by omega
  rw [← hN]
  have HNN := (show Hid _ from hN)
  rw [← hN] at hlen
  clear hN
  go_enter Try.func10, Try.ntmps10
  go_wp2
  go_loop [6, 7, 8, 9, 10] (fun c i _ _ _ => ∃ k : Nat, k ≤ N ∧ i = .int .i64 k ∧ c = .int .i64 ((firsts l k).length : Int)) (fun _ i _ _ _ => N - (intOf i).toNat)
  case atStart => exact ⟨0, Nat.zero_le _, rfl, rfl⟩
  case round =>
    obtain ⟨k, hk, rfl, rfl⟩ := hrel
    by_cases hlt : k < N
    · have hfk := (firsts_spec l k (by omega)).2.2
      have F1 := (show Hid _ from firsts_old l k)
      have F2 := (show Hid _ from firsts_new l k)
      go_wp2_with fail
      refine (HN.out k w HA.out.1 HA.out.2 (HNN.out ▸ hlt)).mono ?_
      rintro e w' ⟨rfl, hw⟩
      subst w'
      generalize (firsts l k).length = F at *
      generalize l.getD k ByteArray.empty = x at *
      go_wp2_with fail
      go_loop [9, 10] (fun f i => ∃ j : Nat, j ≤ k ∧ i = .int .i64 j ∧ f = .bool true ∧ Hid (x ∉ l.take j)) (fun _ i => k - (intOf i).toNat)
      case atStart => exact ⟨0, Nat.zero_le _, rfl, rfl, (by simp : x ∉ l.take 0)⟩
      case round =>
        obtain ⟨j, hj, rfl, rfl, hno⟩ := hrel
        by_cases hjk : j < k
        · have HJ := (show Hid _ from HN.out j w HA.out.1 HA.out.2 (HNN.out ▸ (Nat.lt_trans hjk hlt)))
          by_cases he : l.getD j ByteArray.empty = x
          · have hG := (show Hid _ from F1.out (by rw [← he, List.getD_eq_getElem?_getD, List.getElem?_eq_getElem (by omega), Option.getD_some]; exact List.mem_take_iff_getElem.2 ⟨j, by omega, rfl⟩))
            have e1 := seq_t he
            clear he
            generalize l.getD j ByteArray.empty = y at *
            go_wp2_with (go_at_call 17; refine Calls.mono HJ.out ?_; rintro e w' ⟨rfl, hw⟩; subst w')
            go_round
            case rel => exact ⟨k + 1, by omega, by go_num, by rw [hG.out]⟩
            case measure => simp [intOf]; omega
          · have E := (show Hid _ from take_snoc_mem (by omega : j < l.length) hno.out he)
            have e1 := seq_f he
            clear he
            generalize l.getD j ByteArray.empty = y at *
            go_wp2_with (go_at_call 17; refine Calls.mono HJ.out ?_; rintro e w' ⟨rfl, hw⟩; subst w')
            go_round
            case rel => exact ⟨j + 1, by omega, by go_num, rfl, E⟩
            case measure => simp [intOf]; omega
        · obtain rfl : j = k := by omega
          have hG := (show Hid _ from F2.out hno.out)
          go_wp2
          go_round
          case rel => exact ⟨j + 1, by omega, by go_num, by rw [hG.out]; go_num⟩
          case measure => simp [intOf]; omega
    · obtain rfl : k = N := by omega
      go_wp2
      go_ret
      exact ⟨rfl, rfl⟩

end Go.Proofs.Qxb6617303a
