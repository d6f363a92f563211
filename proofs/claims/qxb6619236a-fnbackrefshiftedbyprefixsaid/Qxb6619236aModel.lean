/-
  Seat b6619236a: the model of the law computes the plain scan.
-/
import Derived.Test.Qxb6619236aPlain
namespace Go.Proofs.Qxb6619236a
open Go.RowKit

def tup (q : Nat) : Option (Nat × Nat) → Ending
  | none => .returned (.tuple #[.int .i64 0, .int .i64 0, .bool false])
  | some x => .returned (.tuple #[.int .i64 ((q : Int) - (x.1 : Int)), .int .i64 ((x.2 : Int) + 2), .bool true])
def RetT (q : Nat) (r : Option (Nat × Nat)) (w : World) (e : Ending) (w' : World) : Prop := e = tup q r ∧ w' = w

theorem ret_none {q : Nat} {r : Option (Nat × Nat)} (w : World) (h : r = none) : RetT q r w (.returned (.tuple #[.int .i64 0, .int .i64 0, .bool false])) w := ⟨by rw [h]; rfl, rfl⟩
theorem ret_some {q : Nat} {r : Option (Nat × Nat)} (w : World) (a b : Int) (v n : Nat) (h : r = some (v, n)) (ha : a = (q : Int) - v) (hb : b = (n : Int) + 2) : RetT q r w (.returned (.tuple #[.int .i64 a, .int .i64 b, .bool true])) w := ⟨by rw [h, ha, hb]; rfl, rfl⟩

/-- The capitals from q+1 up to k. -/
def Caps (s : ByteArray) (q k : Nat) : Prop := ∀ i (h : i < s.size), q < i → i < k → 65 ≤ s[i].toNat ∧ s[i].toNat ≤ 90

/-- Where the run of capitals ends at no small letter the scan finds nothing. -/
theorem caps_none (s : ByteArray) (q k : Nat) (hc : Caps s q k) (hk : q < k) (hs : s.size ≤ k ∨ ∃ h : k < s.size, ¬ (65 ≤ s[k].toNat ∧ s[k].toNat ≤ 90) ∧ ¬ (97 ≤ s[k].toNat ∧ s[k].toNat ≤ 122)) :
    ∀ m j v n, k - j = m → q < j → j ≤ k → scanAt s q j v n = none := by
  intro m
  induction m with
  | zero =>
    intro j v n hm hq hj
    obtain rfl : j = k := by omega
    rcases hs with h | ⟨h, h1, h2⟩
    · exact scanAt_end _ _ _ _ _ h
    · rw [scanAt_cons _ _ _ _ _ h, if_neg h1, if_neg h2]
  | succ m ih =>
    intro j v n hm hq hj
    by_cases h : j < s.size
    · rw [scanAt_cons _ _ _ _ _ h, if_pos (hc j h hq (by omega))]
      split
      · rfl
      · exact ih _ _ _ (by omega) (by omega) (by omega)
    · exact scanAt_end _ _ _ _ _ (by omega)

/-- What the second loop knows at place j with the value v. -/
def Mid (s : ByteArray) (q k j v : Nat) (R : Option (Nat × Nat)) : Prop :=
  (q < v → R = none) ∧ (v ≤ q → (j ≤ k → R = scanAt s q j v (j - (q + 1))) ∧ (k < j → (v = 0 → R = none) ∧ (v ≠ 0 → R = some (v, k - (q + 1)))))

theorem mid_cap (s : ByteArray) (q k j v : Nat) (R : Option (Nat × Nat)) (h : Mid s q k j v R) (hv : v ≤ q) (hj : j < k) (hs : j < s.size) (hq : q < j) (hc : 65 ≤ s[j].toNat ∧ s[j].toNat ≤ 90) :
    Mid s q k (j + 1) (v * 26 + (s[j].toNat - 65)) R := by
  have h1 := (h.2 hv).1 (by omega)
  rw [scanAt_cons _ _ _ _ _ hs, if_pos hc] at h1
  refine ⟨fun h2 => ?_, fun h2 => ⟨fun h3 => ?_, fun h3 => by omega⟩⟩
  · rw [if_pos h2] at h1; exact h1
  · rw [if_neg (by omega)] at h1
    rw [h1]; congr 1; omega

theorem mid_last (s : ByteArray) (q k v : Nat) (R : Option (Nat × Nat)) (h : Mid s q k k v R) (hv : v ≤ q) (hs : k < s.size) (hc : 97 ≤ s[k].toNat ∧ s[k].toNat ≤ 122) :
    Mid s q k (k + 1) (v * 26 + (s[k].toNat - 97)) R := by
  have h1 := (h.2 hv).1 (by omega)
  rw [scanAt_cons _ _ _ _ _ hs, if_neg (by omega), if_pos hc] at h1
  refine ⟨fun h2 => ?_, fun h2 => ⟨fun h3 => by omega, fun _ => ⟨fun h4 => ?_, fun h4 => ?_⟩⟩⟩
  · rw [if_pos (Or.inl h2)] at h1; exact h1
  · rw [if_pos (Or.inr h4)] at h1; exact h1
  · rw [if_neg (by omega)] at h1; exact h1

set_option maxHeartbeats 1000000 in
theorem model_any (s : ByteArray) (q : Nat) (w : World) (hs : s.size ≤ 1048576) (hq : q ≤ s.size) (R : Option (Nat × Nat)) (hR : scanAt s q (q + 1) 0 0 = R) :
    Calls Try.prog 7 #[.string s, .int .i64 (q : Int)] w fun e w' => RetT q R w e w' := by
  have HR := (show Hid _ from hR)
  clear hR
  go_enter Try.func7, Try.ntmps7
  go_wp2
  go_loop [7] (fun i => ∃ k : Nat, q < k ∧ k ≤ s.size + 1 ∧ i = .int .i64 k ∧ Hid (Caps s q k)) (fun i => s.size - (intOf i).toNat)
  case atStart => exact ⟨q + 1, by omega, by omega, by go_num, fun i _ h1 h2 => by omega⟩
  case round =>
    obtain ⟨k, hqk, hk, rfl, HC⟩ := hrel
    by_cases hlt : k < s.size
    · by_cases hu : 65 ≤ s[k].toNat ∧ s[k].toNat ≤ 90
      · obtain ⟨hu1, hu2⟩ := hu
        go_wp2_with (go_at_call 10; refine (up10_yes _ _ (by omega) (by omega)).mono ?_; rintro e w' ⟨rfl, hw⟩; subst w')
        go_round
        case rel =>
          refine ⟨k + 1, by omega, by omega, by go_num, fun i h h1 h2 => ?_⟩
          by_cases e : i = k
          · subst e; exact ⟨hu1, hu2⟩
          · exact HC.out i h h1 (by omega)
        case measure => simp [intOf]; omega
      · by_cases hl : 97 ≤ s[k].toNat ∧ s[k].toNat ≤ 122
        · have Hu := (show Hid _ from hu)
          obtain ⟨hl1, hl2⟩ := hl
          clear hu
          go_wp2_with (first | (go_at_call 10; refine (up10_no _ _ (fun h => Hu.out ⟨by omega, by omega⟩)).mono ?_; rintro e w' ⟨rfl, hw⟩; subst w') | (go_at_call 11; refine (lo11_yes _ _ (by omega) (by omega)).mono ?_; rintro e w' ⟨rfl, hw⟩; subst w'))
          rw [show decide (s.size ≤ k) = false from decide_eq_false (by omega)]
          go_loop [8, 9, 10] (fun x y d => ∃ v j : Nat, q < j ∧ j ≤ k + 1 ∧ v ≤ 26 * q + 25 ∧ x = .int .i64 v ∧ y = .int .i64 j ∧ Hid (Mid s q k j v R)) (fun x y _ => k + 1 - (intOf y).toNat)
          case atStart =>
            exact ⟨0, q + 1, by omega, by omega, by omega, by go_num, by go_num, ⟨fun h => by omega, fun _ => ⟨fun _ => by rw [Nat.sub_self]; exact HR.out.symm, fun h => by omega⟩⟩⟩
          case round =>
            obtain ⟨v, j, hqj, hjk, hv, rfl, rfl, HM⟩ := hrel
            by_cases hvq : v ≤ q
            · by_cases hj : j < k
              · have hjs : j < s.size := by omega
                obtain ⟨hc1, hc2⟩ := HC.out j hjs hqj hj
                have HN := (show Hid _ from mid_cap s q k j v R HM.out hvq hj hjs hqj ⟨hc1, hc2⟩)
                have hmod : ((s[j].toNat : Int) - 65) % 256 = (s[j].toNat : Int) - 65 := by omega
                go_wp2_with (go_at_call 10; refine (up10_yes _ _ (by omega) (by omega)).mono ?_; rintro e w' ⟨rfl, hw⟩; subst w')
                go_round
                case rel => exact ⟨v * 26 + (s[j].toNat - 65), j + 1, by omega, by omega, by omega, by go_num, by go_num, HN⟩
                case measure => simp [intOf]; omega
              · by_cases hj2 : j = k
                · subst hj2
                  have HN := (show Hid _ from mid_last s q j v R HM.out hvq hlt ⟨hl1, hl2⟩)
                  have hmod : ((s[j].toNat : Int) - 97) % 256 = (s[j].toNat : Int) - 97 := by omega
                  go_wp2_with (go_at_call 10; refine (up10_no _ _ (by omega)).mono ?_; rintro e w' ⟨rfl, hw⟩; subst w')
                  go_round
                  case rel => exact ⟨v * 26 + (s[j].toNat - 97), j + 1, by omega, by omega, by omega, by go_num, by go_num, HN⟩
                  case measure => simp [intOf]
                · by_cases hv0 : v = 0
                  · have E := (show Hid _ from ((HM.out.2 hvq).2 (by omega)).1 hv0)
                    subst hv0
                    go_wp2
                    go_ret3
                    exact ret_none _ E.out
                  · have E := (show Hid _ from ((HM.out.2 hvq).2 (by omega)).2 hv0)
                    go_wp2
                    go_ret3
                    exact ret_some _ _ _ _ _ E.out (by go_num) (by go_num)
            · have E := (show Hid _ from HM.out.1 (by omega))
              go_wp2
              all_goals (go_ret3; exact ret_none _ E.out)
        · have E := caps_none s q k HC.out hqk (Or.inr ⟨hlt, hu, hl⟩) _ (q + 1) 0 0 rfl (by omega) (by omega)
          have E := (show Hid _ from HR.out.symm.trans E)
          have Hu := (show Hid _ from hu)
          have Hl := (show Hid _ from hl)
          clear hu hl
          go_wp2_with (first | (go_at_call 10; refine (up10_no _ _ (fun h => Hu.out ⟨by omega, by omega⟩)).mono ?_; rintro e w' ⟨rfl, hw⟩; subst w') | (go_at_call 11; refine (lo11_no _ _ (fun h => Hl.out ⟨by omega, by omega⟩)).mono ?_; rintro e w' ⟨rfl, hw⟩; subst w'))
          go_ret3
          exact ret_none _ E.out
    · have E := caps_none s q k HC.out hqk (Or.inl (by omega)) _ (q + 1) 0 0 rfl (by omega) (by omega)
      have E := (show Hid _ from HR.out.symm.trans E)
      go_wp2
      go_ret3
      exact ret_none _ E.out

end Go.Proofs.Qxb6619236a
