/-
  Seat b6619236a: the reader's backref computes the plain scan, and so does ZZBackref.
-/
import Derived.Test.Qxb6619236aModel
import Derived.Below
namespace Go.Proofs.Qxb6619236a
open Go.RowKit

/-- Go's overflow test says what the scan's says. -/
theorem over_iff (q v d : Nat) : (((q : Int) - d) / 26 < v) ↔ q < v * 26 + d := by omega

set_option maxHeartbeats 1000000 in
theorem backref_any (s : ByteArray) (q b : Nat) (w : World) (hs : s.size ≤ 1048576) (hq : q ≤ s.size) (R : Option (Nat × Nat)) (hR : scanAt s q (q + 1) 0 0 = R)
    (hcell : w.cell? ⟨b, 2, none⟩ = some (.string s)) :
    Calls Try.prog 9 #[.pointer (some ⟨b, 0, none⟩), .int .i64 (q : Int)] w fun e w' => RetT q R w e w' := by
  have HR := (show Hid _ from hR)
  clear hR
  go_enter Try.func9, Try.ntmps9
  go_wp2
  go_loop [7, 8, 9, 10] (fun x y _ _ => ∃ v j : Nat, q < j ∧ j ≤ s.size + 1 ∧ v ≤ q ∧ x = .int .i64 v ∧ y = .int .i64 j ∧ Hid (scanAt s q j v (j - (q + 1)) = R)) (fun _ y _ _ => s.size - (intOf y).toNat)
  case atStart => exact ⟨0, q + 1, by omega, by omega, by omega, by go_num, by go_num, by rw [Nat.sub_self]; exact HR.out⟩
  case round =>
    obtain ⟨v, j, hqj, hjs, hv, rfl, rfl, HM⟩ := hrel
    by_cases hlt : j < s.size
    · have HS := (show Hid _ from (scanAt_cons s q j v (j - (q + 1)) hlt).symm.trans HM.out)
      by_cases hu : 65 ≤ s[j].toNat ∧ s[j].toNat ≤ 90
      · obtain ⟨hu1, hu2⟩ := hu
        have hmod : ((s[j].toNat : Int) - 65) % 256 = (s[j].toNat : Int) - 65 := by omega
        have HS := (show Hid _ from by have h := HS.out; rw [if_pos ⟨hu1, hu2⟩] at h; exact h)
        by_cases hd : q < s[j].toNat - 65
        · have E := (show Hid _ from by have h := HS.out; rw [if_pos (by omega)] at h; exact h.symm)
          go_wp2_with (first | (go_at_call 12; refine (up12_yes _ _ (by omega) (by omega)).mono ?_; rintro e w' ⟨rfl, hw⟩; subst w') | (go_at_call 13; refine (lo13_no _ _ (by omega)).mono ?_; rintro e w' ⟨rfl, hw⟩; subst w'))
          go_ret3
          exact ret_none _ E.out
        · by_cases ho : q < v * 26 + (s[j].toNat - 65)
          · have E := (show Hid _ from by have h := HS.out; rw [if_pos ho] at h; exact h.symm)
            have ht := ((over_iff q v (s[j].toNat - 65)).2 ho)
            go_wp2_with (first | (go_at_call 12; refine (up12_yes _ _ (by omega) (by omega)).mono ?_; rintro e w' ⟨rfl, hw⟩; subst w') | (go_at_call 13; refine (lo13_no _ _ (by omega)).mono ?_; rintro e w' ⟨rfl, hw⟩; subst w'))
            go_ret3
            exact ret_none _ E.out
          · have E := (show Hid _ from by have h := HS.out; rw [if_neg ho] at h; exact h)
            have ht : ¬ ((q : Int) - ((s[j].toNat - 65 : Nat) : Int)) / 26 < v := fun h => ho ((over_iff q v (s[j].toNat - 65)).1 h)
            go_wp2_with (first | (go_at_call 12; refine (up12_yes _ _ (by omega) (by omega)).mono ?_; rintro e w' ⟨rfl, hw⟩; subst w') | (go_at_call 13; refine (lo13_no _ _ (by omega)).mono ?_; rintro e w' ⟨rfl, hw⟩; subst w'))
            go_round
            case rel => exact ⟨v * 26 + (s[j].toNat - 65), j + 1, by omega, by omega, by omega, by go_num, by go_num, by rw [show j + 1 - (q + 1) = j - (q + 1) + 1 by omega]; exact E.out⟩
            case measure => simp [intOf]; omega
      · have Hu := (show Hid _ from hu)
        by_cases hl : 97 ≤ s[j].toNat ∧ s[j].toNat ≤ 122
        · obtain ⟨hl1, hl2⟩ := hl
          have hmod : ((s[j].toNat : Int) - 97) % 256 = (s[j].toNat : Int) - 97 := by omega
          have HS := (show Hid _ from by have h := HS.out; rw [if_neg hu, if_pos ⟨hl1, hl2⟩] at h; exact h)
          clear hu
          by_cases hd : q < s[j].toNat - 97
          · have E := (show Hid _ from by have h := HS.out; rw [if_pos (by omega)] at h; exact h.symm)
            go_wp2_with (first | (go_at_call 12; refine (up12_no _ _ (by omega)).mono ?_; rintro e w' ⟨rfl, hw⟩; subst w') | (go_at_call 13; refine (lo13_yes _ _ (by omega) (by omega)).mono ?_; rintro e w' ⟨rfl, hw⟩; subst w'))
            go_ret3
            exact ret_none _ E.out
          · by_cases ho : q < v * 26 + (s[j].toNat - 97)
            · have E := (show Hid _ from by have h := HS.out; rw [if_pos (Or.inl ho)] at h; exact h.symm)
              have ht := ((over_iff q v (s[j].toNat - 97)).2 ho)
              go_wp2_with (first | (go_at_call 12; refine (up12_no _ _ (by omega)).mono ?_; rintro e w' ⟨rfl, hw⟩; subst w') | (go_at_call 13; refine (lo13_yes _ _ (by omega) (by omega)).mono ?_; rintro e w' ⟨rfl, hw⟩; subst w'))
              go_ret3
              exact ret_none _ E.out
            · have ht : ¬ ((q : Int) - ((s[j].toNat - 97 : Nat) : Int)) / 26 < v := fun h => ho ((over_iff q v (s[j].toNat - 97)).1 h)
              by_cases hz : v * 26 + (s[j].toNat - 97) = 0
              · have E := (show Hid _ from by have h := HS.out; rw [if_pos (Or.inr hz)] at h; exact h.symm)
                have hz2 : (v : Int) * 26 + ((s[j].toNat : Int) - 97) = 0 := by omega
                go_wp2_with (first | (go_at_call 12; refine (up12_no _ _ (by omega)).mono ?_; rintro e w' ⟨rfl, hw⟩; subst w') | (go_at_call 13; refine (lo13_yes _ _ (by omega) (by omega)).mono ?_; rintro e w' ⟨rfl, hw⟩; subst w'))
                go_ret3
                exact ret_none _ E.out
              · have E := (show Hid _ from by have h := HS.out; rw [if_neg (by omega)] at h; exact h.symm)
                have hz2 : ¬ (v : Int) * 26 + ((s[j].toNat : Int) - 97) = 0 := by omega
                go_wp2_with (first | (go_at_call 12; refine (up12_no _ _ (by omega)).mono ?_; rintro e w' ⟨rfl, hw⟩; subst w') | (go_at_call 13; refine (lo13_yes _ _ (by omega) (by omega)).mono ?_; rintro e w' ⟨rfl, hw⟩; subst w'))
                go_ret3
                exact ret_some _ _ _ _ _ E.out (by go_num) (by go_num)
        · have E := (show Hid _ from by have h := HS.out; rw [if_neg hu, if_neg hl] at h; exact h.symm)
          have Hl := (show Hid _ from hl)
          clear hu hl
          go_wp2_with (first | (go_at_call 12; refine (up12_no _ _ (fun h => Hu.out ⟨by omega, by omega⟩)).mono ?_; rintro e w' ⟨rfl, hw⟩; subst w') | (go_at_call 13; refine (lo13_no _ _ (fun h => Hl.out ⟨by omega, by omega⟩)).mono ?_; rintro e w' ⟨rfl, hw⟩; subst w'))
          go_ret3
          exact ret_none _ E.out
    · have E := (show Hid _ from HM.out.symm.trans (scanAt_end s q j v (j - (q + 1)) (by omega)))
      go_wp2
      go_ret3
      exact ret_none _ E.out

/-- ZZBackref: as backref; it makes a reader of its own. -/
def RetN (q : Nat) (r : Option (Nat × Nat)) (w : World) (e : Ending) (w' : World) : Prop := e = tup q r ∧ Below w.heap.size w w'

theorem retn_tup {q : Nat} {r : Option (Nat × Nat)} {w w' : World} {a b : Int} {c : Bool} (h : tup q r = .returned (.tuple #[.int .i64 a, .int .i64 b, .bool c])) (hb : Below w.heap.size w w') : RetN q r w (.returned (.tuple #[.int .i64 a, .int .i64 b, .bool c])) w' := ⟨h.symm, hb⟩

theorem tup_vals (q : Nat) (r : Option (Nat × Nat)) : ∃ (a b : Int) (c : Bool), tup q r = .returned (.tuple #[.int .i64 a, .int .i64 b, .bool c]) := by
  cases r with
  | none => exact ⟨_, _, _, rfl⟩
  | some x => exact ⟨_, _, _, rfl⟩

set_option maxHeartbeats 1000000 in
theorem zzbackref_any (s : ByteArray) (q : Nat) (w : World) (hs : s.size ≤ 1048576) (hq : q ≤ s.size) (R : Option (Nat × Nat)) (hR : scanAt s q (q + 1) 0 0 = R) :
    Calls Try.prog 6 #[.string s, .int .i64 (q : Int)] w fun e w' => RetN q R w e w' := by
  obtain ⟨a, b, c, ht⟩ := tup_vals q R
  have HT := (show Hid _ from ht)
  clear ht
  have HR := (show Hid _ from hR)
  clear hR
  go_enter Try.func6, Try.ntmps6
  go_wp2_with (go_at_call 9; refine (backref_any s q _ _ hs hq R HR.out (by simp)).mono ?_; rintro e w' ⟨he, hw⟩; subst w'; rw [HT.out] at he; subst he)
  go_ret3
  exact retn_tup HT.out ((Below.refl _ w).alloc (Nat.le_refl _) _)

end Go.Proofs.Qxb6619236a
