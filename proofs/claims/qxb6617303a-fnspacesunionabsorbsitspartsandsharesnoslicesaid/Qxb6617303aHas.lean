/-
  Seat b6617303a: sortedHas finds what a strictly rising list holds.
-/
import Derived.Test.Qxb6617303aLeafs
namespace Go.Proofs.Qxb6617303a
open Go.RowKit

theorem less_eq : ∀ (x y : List UInt8), Op.bytesLess x y = decide (x < y)
  | [], [] => by simp [Op.bytesLess]
  | [], _ :: _ => by simp [Op.bytesLess]
  | _ :: _, [] => by simp [Op.bytesLess]
  | a :: x, b :: y => by
    rw [Op.bytesLess, less_eq x y, Bool.eq_iff_iff]
    simp [List.cons_lt_cons_iff]

theorem less_irrefl (x : List UInt8) : Op.bytesLess x x = false := by rw [less_eq]; simp [List.lt_irrefl]
theorem less_asymm {x y : List UInt8} (h : Op.bytesLess x y = true) : Op.bytesLess y x = false := by
  rw [less_eq] at h ⊢
  simp only [decide_eq_true_eq] at h
  simp only [decide_eq_false_iff_not]
  exact List.lt_asymm h

/-- Strictly rising in byte order. -/
def Rising (ss : List ByteArray) : Prop := ∀ i j, i < j → j < ss.length → Op.bytesLess (ss.getD i ByteArray.empty).toList (ss.getD j ByteArray.empty).toList = true

theorem rising_at {ss : List ByteArray} (h : Rising ss) {p : Nat} (hp : p < ss.length) (m : Nat) (hm : m < ss.length) :
    Op.bytesLess (ss.getD m ByteArray.empty).toList (ss.getD p ByteArray.empty).toList = decide (m < p) := by
  rcases Nat.lt_trichotomy m p with h1 | h1 | h1
  · rw [h m p h1 hp]; simp [h1]
  · subst h1; rw [less_irrefl]; simp
  · rw [less_asymm (h p m h1 hm)]; simp; omega

set_option maxHeartbeats 1000000 in
theorem sortedHas_any (a : Option Addr) (ss : List ByteArray) (c : Nat) (x : ByteArray) (w : World) (hs : Strs w a ss) (hr : Rising ss) (p : Nat) (hp : p < ss.length) (hx : ss.getD p ByteArray.empty = x) (hlen : ss.length ≤ 1048576) :
    Calls Try.prog 12 #[.slice a ss.length c, .string x] w fun e w' => RetB true w e w' := by
  obtain ⟨hl, hc⟩ := hs
  have HC := (show Hid _ from hc)
  have HX := (show Hid _ from hx)
  have HR := (show Hid (∀ m, m < ss.length → Op.bytesLess (ss.getD m ByteArray.empty).toList x.toList = decide (m < p)) from fun m hm => by rw [← hx]; exact rising_at hr hp m hm)
  clear hc hr hx hl
  go_enter Try.func12, Try.ntmps12
  go_wp2
  go_loop [5, 6] (fun lo hi => ∃ (l h : Nat), lo = .int .i64 l ∧ hi = .int .i64 h ∧ l ≤ p ∧ p ≤ h ∧ h ≤ ss.length) (fun lo hi => ((intOf hi) - (intOf lo)).toNat)
  case atStart => exact ⟨0, ss.length, rfl, rfl, Nat.zero_le _, Nat.le_of_lt hp, Nat.le_refl _⟩
  case round =>
    obtain ⟨l, h, rfl, rfl, hlp, hph, hhl⟩ := hrel
    by_cases hlt : l < h
    · have hm : l + (h - l) / 2 < ss.length := by omega
      obtain ⟨b, off, ha, hb, hcell, hsz⟩ := HC.out (l + (h - l) / 2) hm
      subst ha
      have hless := HR.out (l + (h - l) / 2) hm
      generalize ss.getD (l + (h - l) / 2) ByteArray.empty = s at *
      by_cases hmp : l + (h - l) / 2 < p
      · rw [decide_eq_true hmp] at hless
        go_wp2
        go_round
        case rel => exact ⟨l + (h - l) / 2 + 1, h, by go_num, rfl, by omega, by omega, by omega⟩
        case measure => simp [intOf]; omega
      · rw [decide_eq_false hmp] at hless
        go_wp2
        go_round
        case rel => exact ⟨l, l + (h - l) / 2, rfl, by go_num, by omega, by omega, by omega⟩
        case measure => simp [intOf]; omega
    · have hlp2 : l = p := by omega
      subst hlp2
      obtain ⟨b, off, ha, hb, hcell, hsz⟩ := HC.out l hp
      subst ha
      have e1 := seq_t HX.out
      generalize ss.getD l ByteArray.empty = s at *
      go_wp2
      go_ret
      exact ret_b _ rfl

end Go.Proofs.Qxb6617303a
