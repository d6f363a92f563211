/-
  Seat b6619236a: the plain scan of a back reference's number, and the four letter tests.
-/
import Derived.Test.Qxb6619236aRows
import Derived.WalkKit
import Derived.WalkSpells
import Derived.WalkLawsBesides
import Derived.Deep.QuietTactic
import Derived.BigQuiet
namespace Go.Proofs.Qxb6619236a
open Go.RowKit

def RetB (b : Bool) (w : World) (e : Ending) (w' : World) : Prop := e = .returned (.bool b) ∧ w' = w
theorem ret_b {b b' : Bool} (w : World) (h : b = b') : RetB b' w (.returned (.bool b)) w := ⟨by rw [h], rfl⟩

/-- Letters from the bytes l, the value so far v, n letters read: capitals go on, a small letter ends; none where the value passes q, at another byte, at the end, and where the value is 0. -/
def scan (q : Nat) : List UInt8 → Nat → Nat → Option (Nat × Nat)
  | [], _, _ => none
  | c :: r, v, n =>
    if 65 ≤ c.toNat ∧ c.toNat ≤ 90 then (if q < v * 26 + (c.toNat - 65) then none else scan q r (v * 26 + (c.toNat - 65)) (n + 1))
    else if 97 ≤ c.toNat ∧ c.toNat ≤ 122 then (if q < v * 26 + (c.toNat - 97) ∨ v * 26 + (c.toNat - 97) = 0 then none else some (v * 26 + (c.toNat - 97), n))
    else none

/-- The scan of s from place k. -/
def scanAt (s : ByteArray) (q k v n : Nat) : Option (Nat × Nat) := scan q (s.data.toList.drop k) v n

theorem scanAt_end (s : ByteArray) (q k v n : Nat) (h : s.size ≤ k) : scanAt s q k v n = none := by
  unfold scanAt
  rw [List.drop_eq_nil_of_le (by simpa using h)]; rfl

theorem scanAt_cons (s : ByteArray) (q k v n : Nat) (h : k < s.size) : scanAt s q k v n =
    if 65 ≤ s[k].toNat ∧ s[k].toNat ≤ 90 then (if q < v * 26 + (s[k].toNat - 65) then none else scanAt s q (k + 1) (v * 26 + (s[k].toNat - 65)) (n + 1))
    else if 97 ≤ s[k].toNat ∧ s[k].toNat ≤ 122 then (if q < v * 26 + (s[k].toNat - 97) ∨ v * 26 + (s[k].toNat - 97) = 0 then none else some (v * 26 + (s[k].toNat - 97), n))
    else none := by
  unfold scanAt
  have e : s.data.toList.drop k = s[k] :: s.data.toList.drop (k + 1) := by
    rw [List.drop_eq_getElem_cons (by simpa using h)]; rfl
  rw [e, scan]

theorem scan_wider (q p : Nat) (l : List UInt8) (v n : Nat) (x : Nat × Nat) (h : scan q l v n = some x) : scan (q + p) l v n = some x := by
  induction l generalizing v n with
  | nil => simp [scan] at h
  | cons c r ih =>
    rw [scan] at h ⊢
    by_cases h1 : 65 ≤ c.toNat ∧ c.toNat ≤ 90
    · rw [if_pos h1] at h ⊢
      by_cases h2 : q < v * 26 + (c.toNat - 65)
      · rw [if_pos h2] at h; simp at h
      · rw [if_neg h2] at h
        rw [if_neg (by omega)]
        exact ih _ _ h
    · rw [if_neg h1] at h ⊢
      by_cases h3 : 97 ≤ c.toNat ∧ c.toNat ≤ 122
      · rw [if_pos h3] at h ⊢
        by_cases h2 : q < v * 26 + (c.toNat - 97) ∨ v * 26 + (c.toNat - 97) = 0
        · rw [if_pos h2] at h; simp at h
        · rw [if_neg h2] at h
          rw [if_neg (by omega)]
          exact h
      · rw [if_neg h3] at h; simp at h

theorem scan_le (q : Nat) (l : List UInt8) (v n : Nat) (x : Nat × Nat) (h : scan q l v n = some x) : x.1 ≤ q ∧ x.2 < n + l.length := by
  induction l generalizing v n with
  | nil => simp [scan] at h
  | cons c r ih =>
    rw [scan] at h
    by_cases h1 : 65 ≤ c.toNat ∧ c.toNat ≤ 90
    · rw [if_pos h1] at h
      by_cases h2 : q < v * 26 + (c.toNat - 65)
      · rw [if_pos h2] at h; simp at h
      · rw [if_neg h2] at h
        have := ih _ _ h
        simp only [List.length_cons]
        omega
    · rw [if_neg h1] at h
      by_cases h3 : 97 ≤ c.toNat ∧ c.toNat ≤ 122
      · rw [if_pos h3] at h
        by_cases h2 : q < v * 26 + (c.toNat - 97) ∨ v * 26 + (c.toNat - 97) = 0
        · rw [if_pos h2] at h; simp at h
        · rw [if_neg h2] at h
          obtain rfl := Option.some.inj h
          simp only [List.length_cons]
          omega
      · rw [if_neg h3] at h; simp at h

/-- Behind the bytes a the same letters stand, a.size places on. -/
theorem scanAt_shift (a s : ByteArray) (q : Nat) (x : Nat × Nat) (h : scanAt s q (q + 1) 0 0 = some x) : scanAt (a ++ s) (q + a.size) (q + a.size + 1) 0 0 = some x := by
  unfold scanAt at h ⊢
  have e : (a ++ s).data.toList.drop (q + a.size + 1) = s.data.toList.drop (q + 1) := by
    have e1 : (a ++ s).data.toList = a.data.toList ++ s.data.toList := by simp
    have e2 : q + a.size + 1 = a.data.toList.length + (q + 1) := by
      have : a.data.toList.length = a.size := by simp
      omega
    rw [e1, e2, List.drop_append, List.drop_of_length_le (by omega)]
    simp
  rw [e]
  exact scan_wider _ _ _ _ _ _ h

theorem scanAt_le (s : ByteArray) (q : Nat) (x : Nat × Nat) (h : scanAt s q (q + 1) 0 0 = some x) : x.1 ≤ q ∧ x.2 < s.size := by
  have := scan_le _ _ _ _ _ h
  simp only [List.length_drop] at this
  have e : s.data.toList.length = s.size := by simp
  omega

/- The letter tests. -/
set_option maxHeartbeats 400000 in
theorem up10_yes (c : Int) (w : World) (h1 : 65 ≤ c) (h2 : c ≤ 90) : Calls Try.prog 10 #[.int .u8 c] w fun e w' => RetB true w e w' := by
  go_enter Try.func10, Try.ntmps10
  go_wp2
  go_ret
  exact ⟨rfl, rfl⟩
set_option maxHeartbeats 400000 in
theorem up12_yes (c : Int) (w : World) (h1 : 65 ≤ c) (h2 : c ≤ 90) : Calls Try.prog 12 #[.int .u8 c] w fun e w' => RetB true w e w' := by
  go_enter Try.func12, Try.ntmps12
  go_wp2
  go_ret
  exact ⟨rfl, rfl⟩
set_option maxHeartbeats 400000 in
theorem lo11_yes (c : Int) (w : World) (h1 : 97 ≤ c) (h2 : c ≤ 122) : Calls Try.prog 11 #[.int .u8 c] w fun e w' => RetB true w e w' := by
  go_enter Try.func11, Try.ntmps11
  go_wp2
  go_ret
  exact ⟨rfl, rfl⟩
set_option maxHeartbeats 400000 in
theorem lo13_yes (c : Int) (w : World) (h1 : 97 ≤ c) (h2 : c ≤ 122) : Calls Try.prog 13 #[.int .u8 c] w fun e w' => RetB true w e w' := by
  go_enter Try.func13, Try.ntmps13
  go_wp2
  go_ret
  exact ⟨rfl, rfl⟩

set_option maxHeartbeats 400000 in
theorem up10_no (c : Int) (w : World) (h : ¬ (65 ≤ c ∧ c ≤ 90)) : Calls Try.prog 10 #[.int .u8 c] w fun e w' => RetB false w e w' := by
  by_cases h1 : 65 ≤ c
  · have h2 : 90 < c := by omega
    clear h
    go_enter Try.func10, Try.ntmps10
    go_wp2
    go_ret
    exact ret_b _ (decide_eq_false (by omega))
  · clear h
    go_enter Try.func10, Try.ntmps10
    go_wp2
    go_ret
    exact ⟨rfl, rfl⟩
set_option maxHeartbeats 400000 in
theorem up12_no (c : Int) (w : World) (h : ¬ (65 ≤ c ∧ c ≤ 90)) : Calls Try.prog 12 #[.int .u8 c] w fun e w' => RetB false w e w' := by
  by_cases h1 : 65 ≤ c
  · have h2 : 90 < c := by omega
    clear h
    go_enter Try.func12, Try.ntmps12
    go_wp2
    go_ret
    exact ret_b _ (decide_eq_false (by omega))
  · clear h
    go_enter Try.func12, Try.ntmps12
    go_wp2
    go_ret
    exact ⟨rfl, rfl⟩
set_option maxHeartbeats 400000 in
theorem lo11_no (c : Int) (w : World) (h : ¬ (97 ≤ c ∧ c ≤ 122)) : Calls Try.prog 11 #[.int .u8 c] w fun e w' => RetB false w e w' := by
  by_cases h1 : 97 ≤ c
  · have h2 : 122 < c := by omega
    clear h
    go_enter Try.func11, Try.ntmps11
    go_wp2
    go_ret
    exact ret_b _ (decide_eq_false (by omega))
  · clear h
    go_enter Try.func11, Try.ntmps11
    go_wp2
    go_ret
    exact ⟨rfl, rfl⟩
set_option maxHeartbeats 400000 in
theorem lo13_no (c : Int) (w : World) (h : ¬ (97 ≤ c ∧ c ≤ 122)) : Calls Try.prog 13 #[.int .u8 c] w fun e w' => RetB false w e w' := by
  by_cases h1 : 97 ≤ c
  · have h2 : 122 < c := by omega
    clear h
    go_enter Try.func13, Try.ntmps13
    go_wp2
    go_ret
    exact ret_b _ (decide_eq_false (by omega))
  · clear h
    go_enter Try.func13, Try.ntmps13
    go_wp2
    go_ret
    exact ⟨rfl, rfl⟩

end Go.Proofs.Qxb6619236a
