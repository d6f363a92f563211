/-
  Seat b6617164a: the walk of FnIsDigitsSplicedByte.
-/
import Derived.Test.Qxb6617164aItoa
import Derived.OpenShut
namespace Go.Proofs.Qxb6617164a
open Go.RowKit

theorem isDig_cat (a x b : ByteArray) (hx : x.data.toList ≠ []) : isDig (a ++ x ++ b) = (digs a.data.toList && digs x.data.toList && digs b.data.toList) := by
  unfold isDig
  have e : (a ++ x ++ b).data.toList = a.data.toList ++ x.data.toList ++ b.data.toList := by simp
  rw [e]
  unfold digs
  rw [List.all_append, List.all_append]
  have : (a.data.toList ++ x.data.toList ++ b.data.toList).isEmpty = false := by
    rw [List.isEmpty_eq_false_iff]
    simp only [ne_eq, List.append_eq_nil_iff, not_and]
    intro h; exact absurd h.2 hx
  rw [this]; simp

def RetSomeB (w : World) (e : Ending) (w' : World) : Prop := (∃ b : Bool, e = .returned (.bool b)) ∧ w' = w

set_option maxHeartbeats 400000 in
theorem zzBytesD_any (a : ByteArray) (c : Int) (b : ByteArray) (n : Int) (w : World) (ha : a.size ≤ maxLen) (hb : b.size ≤ maxLen) :
    Calls Try.prog 6 #[.string a, .int .u8 c, .string b, .int .u64 n] w fun e w' => RetSomeB w e w' := by
  unfold maxLen at ha hb
  go_enter Try.func6, Try.ntmps6
  go_wp2
  all_goals (go_ret; exact ⟨⟨_, rfl⟩, rfl⟩)

def Yes (w : World) (e : Ending) (w' : World) : Prop := e = .returned (.bool true) ∧ Below w.heap.size w w'

theorem conv_one (c : Int) (W : World) (g : Nat) (h : W.cell? ⟨g, 0, none⟩ = some (.int .u8 c)) : (convert 26 9 (.slice (some ⟨g, 0, none⟩) 1 1)).run Try.prog W = .ok (.string (strOfNums [c])) W := by
  refine run_convert_bytes_arg W 26 5 Try.underlying26 Try.underlying5 g 0 1 1 [c] rfl (fun i hi => ?_) 9 Try.underlying9
  obtain rfl : i = 0 := by omega
  simpa using h

set_option maxHeartbeats 4000000 in
theorem spliced_ways (a : ByteArray) (c : Int) (b : ByteArray) (n : Int) (w : World) (ha : a.size ≤ maxLen) (hb : b.size ≤ maxLen) (hc0 : 0 ≤ c) (hc1 : c ≤ 255) (hn0 : 0 ≤ n) (hn1 : n ≤ 18446744073709551615)
    (ha2 : a.size ≤ 524288) (hb2 : b.size ≤ 524288) (A B C : Bool) (hA : (a.toList.isEmpty = true ∧ A = true) ∨ (a.toList.isEmpty = false ∧ isDig a = A)) (hB : (b.toList.isEmpty = true ∧ B = true) ∨ (b.toList.isEmpty = false ∧ isDig b = B))
    (hC : ((c - 48) % 256 < 10 ∧ C = true) ∨ (10 ≤ (c - 48) % 256 ∧ C = false)) (hW : isDig (a ++ strOfNums [c] ++ b) = (A && C && B)) (hF : ∀ d, isDig d = true → isDig (a ++ d ++ b) = (A && B)) :
    Calls Try.prog 3 #[.string a, .int .u8 c, .string b, .int .u64 n] w fun e w' => Yes w e w' := by
  have hcv := conv_one c
  have hsz : (strOfNums [c]).size = 1 := by rw [strOfNums_size]; rfl
  have hem : isDig ⟨#[]⟩ = false := rfl
  have HA := (show Hid _ from hA)
  have HB := (show Hid _ from hB)
  have HC := (show Hid _ from hC)
  have HW := (show Hid _ from hW)
  have HF := (show Hid _ from hF)
  clear hA hB hC hW hF
  unfold maxLen at ha hb
  go_enter Try.func3, Try.ntmps3
  go_wp2_with fail
  refine (zzBytesD_any a c b n w ha hb).mono ?_
  rintro e w' ⟨⟨bb, rfl⟩, hw⟩
  subst w'
  cases bb with
  | false =>
    go_wp2
    go_ret
    exact ⟨rfl, Below.refl _ _⟩
  | true =>
    go_wp2_with fail
    refine (itoa_any n w hn0 hn1).mono ?_
    rintro e w1 ⟨d, rfl, hd, hds, hb1⟩
    have hFd := HF.out d hd
    have hWd := HW.out
    clear HF HW
    rcases HA.out with ⟨ea, rfl⟩ | ⟨ea, iA⟩ <;> rcases HB.out with ⟨eb, rfl⟩ | ⟨eb, iB⟩ <;> rcases HC.out with ⟨ec, rfl⟩ | ⟨ec, rfl⟩
    all_goals
      try cases A
      all_goals
        try cases B
        all_goals
          clear HA HB HC
          simp only [Bool.and_true, Bool.and_false] at hFd hWd
          go_wp2_with (go_at_call 8; refine (zzIsDigits_any _ _ ?_).mono ?_; (unfold maxLen; first | omega | exact Nat.zero_le _ | (simp only [ByteArray.size_append]; omega)); rintro e w' ⟨rfl, hw⟩; subst w')
          go_ret
          exact ⟨rfl, hb1.alloc hb1.size _⟩

theorem digs_case (a : ByteArray) : (a.toList.isEmpty = true ∧ digs a.data.toList = true) ∨ (a.toList.isEmpty = false ∧ isDig a = digs a.data.toList) := by
  rw [ByteArray.toList_eq]
  unfold isDig
  cases h : a.data.toList with
  | nil => left; exact ⟨rfl, rfl⟩
  | cons x r => right; simp

theorem one_digit (c : Int) (h0 : 0 ≤ c) (h1 : c ≤ 255) : ((c - 48) % 256 < 10 ∧ digs (strOfNums [c]).data.toList = true) ∨ (10 ≤ (c - 48) % 256 ∧ digs (strOfNums [c]).data.toList = false) := by
  have e : digs (strOfNums [c]).data.toList = isD (UInt8.ofNat c.toNat) := by rw [strOfNums_data]; simp [digs]
  have e2 : (UInt8.ofNat c.toNat).toNat = c.toNat := by rw [UInt8.toNat_ofNat']; omega
  rw [e]
  unfold isD
  rw [e2]
  by_cases h : 48 ≤ c ∧ c ≤ 57
  · left; refine ⟨by omega, ?_⟩; simp; omega
  · right; refine ⟨by omega, ?_⟩; simp; omega

theorem isDig_digs {d : ByteArray} (h : isDig d = true) : digs d.data.toList = true ∧ d.data.toList ≠ [] := by
  unfold isDig at h
  rw [Bool.and_eq_true] at h
  exact ⟨h.1, by intro e; rw [e] at h; simp at h⟩

set_option maxHeartbeats 400000 in
theorem spliced_long (a : ByteArray) (c : Int) (b : ByteArray) (n : Int) (w : World) (ha : a.size ≤ maxLen) (hb : b.size ≤ maxLen) (hl : 524288 < a.size ∨ 524288 < b.size) :
    Calls Try.prog 3 #[.string a, .int .u8 c, .string b, .int .u64 n] w fun e w' => Yes w e w' := by
  unfold maxLen at ha hb
  by_cases h1 : 524288 < a.size
  · clear hl
    go_enter Try.func3, Try.ntmps3
    go_wp2_with fail
    refine (zzBytesD_any a c b n w ha hb).mono ?_
    rintro e w' ⟨⟨bb, rfl⟩, hw⟩
    subst w'
    cases bb
    all_goals (go_wp2; go_ret; exact ⟨rfl, Below.refl _ _⟩)
  · have h2 : 524288 < b.size := by omega
    clear hl
    go_enter Try.func3, Try.ntmps3
    go_wp2_with fail
    refine (zzBytesD_any a c b n w ha hb).mono ?_
    rintro e w' ⟨⟨bb, rfl⟩, hw⟩
    subst w'
    cases bb
    all_goals (go_wp2; go_ret; exact ⟨rfl, Below.refl _ _⟩)

theorem spliced_walk (a : ByteArray) (c : Int) (b : ByteArray) (n : Int) (w : World) (ha : a.size ≤ maxLen) (hb : b.size ≤ maxLen) (hc : (Lit.int .u8 c).wf = true) (hn : (Lit.int .u64 n).wf = true) :
    Calls Try.prog 3 #[.string a, .int .u8 c, .string b, .int .u64 n] w fun e w' => Yes w e w' := by
  have bc := bounds_u8 hc
  have bn := bounds_u64 hn
  by_cases hl : 524288 < a.size ∨ 524288 < b.size
  · exact spliced_long a c b n w ha hb hl
  · refine spliced_ways a c b n w ha hb (by omega) (by omega) (by omega) (by omega) (by omega) (by omega) (digs a.data.toList) (digs b.data.toList) (digs (strOfNums [c]).data.toList) (digs_case a) (digs_case b) (one_digit c (by omega) (by omega))
      (isDig_cat a (strOfNums [c]) b (by rw [strOfNums_data]; simp)) (fun d hd => ?_)
    obtain ⟨h1, h2⟩ := isDig_digs hd
    rw [isDig_cat a d b h2, h1, Bool.and_true]

end Go.Proofs.Qxb6617164a
