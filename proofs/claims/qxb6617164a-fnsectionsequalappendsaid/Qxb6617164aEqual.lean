/-
  Seat b6617164a: zzCopy, ZZSections, (Sections).Equal.
-/
import Derived.Test.Qxb6617164aStrs
namespace Go.Proofs.Qxb6617164a
open Go.RowKit

set_option maxHeartbeats 400000 in
theorem copy_nil (cap : Nat) (w : World) : Calls Try.prog 12 #[.slice none 0 cap] w fun e w' => FreshP [] w e w' := by
  have he := fun w => Lib.run_eql_slice_nil (P := Try.prog) w 27 9 none 0 cap 0 0 Try.underlying27
  go_enter Try.func12, Try.ntmps12
  go_wp2
  go_ret
  exact fresh_mk rfl (Strs.nil _ _) (Below.refl _ _)

set_option maxHeartbeats 400000 in
theorem copy_some (x : Addr) (xs : List ByteArray) (cap : Nat) (w : World) (hs : Strs w (some x) xs) (hle : xs.length ≤ 1048576) : Calls Try.prog 12 #[.slice (some x) xs.length cap] w fun e w' => FreshP xs w e w' := by
  have he := fun w => Lib.run_eql_slice_nil (P := Try.prog) w 27 9 (some x) xs.length cap 0 0 Try.underlying27
  have HS := (show Hid _ from hs)
  clear hs
  go_enter Try.func12, Try.ntmps12
  go_wp2_with (go_at_call 15; refine (cat2_any (some x) xs cap none [] 0 w HS.out (Strs.nil _ _) hle (by simp)).mono ?_; rintro e w' ⟨zs, a', c', hz, rfl, hs', hb⟩)
  go_ret
  have e := hz.out
  rw [List.append_nil] at e
  exact fresh_mk (by rw [← e]) (e ▸ hs') hb

theorem copy_any (a : Option Addr) (xs : List ByteArray) (cap : Nat) (w : World) (hs : Strs w a xs) (hle : xs.length ≤ 1048576) : Calls Try.prog 12 #[.slice a xs.length cap] w fun e w' => FreshP xs w e w' := by
  cases a with
  | some x => exact copy_some x xs cap w hs hle
  | none =>
    cases xs with
    | nil => exact copy_nil cap w
    | cons s r =>
      obtain ⟨_, _, h, _⟩ := hs.2 0 (by simp)
      cases h

def RetV (v : Value) (w : World) (e : Ending) (w' : World) : Prop := e = .returned v ∧ Below w.heap.size w w'
theorem ret_v {v v' : Value} {w w' : World} (h : v = v') (hb : Below w.heap.size w w') : RetV v' w (.returned v) w' := ⟨by rw [h], hb⟩

set_option maxHeartbeats 400000 in
theorem sections_any (a : Option Addr) (n c : Nat) (t : ByteArray) (w : World) : Calls Try.prog 11 #[.slice a n c, .string t] w fun e w' => RetV (.agg #[.slice a n c, .string t]) w e w' := by
  go_enter Try.func11, Try.ntmps11
  go_wp2
  exact bodyPost_ret (v := .agg #[.slice a n c, .string t]) (by simp [results, Try.results11, go_sem]) rfl ⟨rfl, (Below.refl _ _).alloc (Nat.le_refl _) _⟩

theorem seq_t {a b : ByteArray} (h : a = b) : (a.toList == b.toList) = true := by rw [h]; simp
theorem seq_f {a b : ByteArray} (h : ¬ a = b) : (a.toList == b.toList) = false := by
  rw [beq_eq_false_iff_ne]
  intro e
  rw [ByteArray.toList_eq, ByteArray.toList_eq] at e
  exact h (by cases a; cases b; simp only [ByteArray.mk.injEq]; exact Array.ext' e)

theorem below2 (w : World) (o1 o2 : Obj) : Below w.heap.size w ((w.alloc o1).alloc o2) := ((Below.refl _ _).alloc (Nat.le_refl _) _).alloc (by simp) _

theorem take_step {xs ys : List ByteArray} {k : Nat} (hx : k < xs.length) (hy : k < ys.length) (h : xs.take k = ys.take k) (he : xs.getD k ByteArray.empty = ys.getD k ByteArray.empty) : xs.take (k + 1) = ys.take (k + 1) := by
  rw [List.take_succ_eq_append_getElem hx, List.take_succ_eq_append_getElem hy, h]
  simp only [List.getD_eq_getElem?_getD, List.getElem?_eq_getElem hx, List.getElem?_eq_getElem hy, Option.getD_some] at he
  rw [he]

/-- Do two lists of names agree? -/
def eqB (xs ys : List ByteArray) : Bool := decide (xs = ys)

set_option maxHeartbeats 1000000 in
theorem equal_any (a : Option Addr) (xs : List ByteArray) (ca : Nat) (ta : ByteArray) (b : Option Addr) (ys : List ByteArray) (cb : Nat) (tb : ByteArray) (w : World) (hx : Strs w a xs) (hy : Strs w b ys) :
    Calls Try.prog 14 #[.agg #[.slice a xs.length ca, .string ta], .agg #[.slice b ys.length cb, .string tb]] w fun e w' => RetV (.bool (eqB xs ys)) w e w' := by
  have HB := (show Hid _ from below2 w (.cells #[.slice a xs.length ca, .string ta] 31) (.cells #[.slice b ys.length cb, .string tb] 31))
  have HX := (show Hid _ from hx)
  have HY := (show Hid _ from hy)
  have hlx := hx.1
  have hly := hy.1
  unfold maxLen at hlx hly
  clear hx hy
  by_cases hl : xs.length = ys.length
  · have hne : ((xs.length : Int) != (ys.length : Int)) = false := by simp [hl]
    have HL := (show Hid _ from hl)
    clear hl
    go_enter Try.func14, Try.ntmps14
    go_wp2
    go_loop [17] (fun i => ∃ k : Nat, k ≤ xs.length ∧ i = .int .i64 k ∧ xs.take k = ys.take k) (fun i => xs.length - (intOf i).toNat)
    case atStart => exact ⟨0, Nat.zero_le _, rfl, by simp⟩
    case round =>
      obtain ⟨k, hk, rfl, htk⟩ := hrel
      have HT := (show Hid _ from htk)
      clear htk
      by_cases hlt : k < xs.length
      · have hlt2 : (k : Int) < (ys.length : Int) := by have := HL.out; omega
        obtain ⟨b1, o1, ha, hb1, hc1, _⟩ := (Strs.below HX.out HB.out).2 k hlt
        obtain ⟨b2, o2, hb', hb2, hc2, _⟩ := (Strs.below HY.out HB.out).2 k (by omega)
        have HTS := (show Hid _ from take_step hlt (by omega) HT.out)
        subst ha
        subst hb'
        by_cases hs : xs.getD k ByteArray.empty = ys.getD k ByteArray.empty
        · have HTT := (show Hid _ from HTS.out hs)
          have hq := seq_f (a := xs.getD k ByteArray.empty) (b := ys.getD k ByteArray.empty)
          have hq1 := seq_t hs.symm
          clear hq
          generalize xs.getD k ByteArray.empty = s1 at *
          generalize ys.getD k ByteArray.empty = s2 at *
          clear hs HTS
          go_wp2
          go_round
          case rel => exact ⟨k + 1, by omega, by go_num, HTT.out⟩
          case measure => simp [intOf]; omega
        · have hq := seq_f (fun e => hs e.symm)
          have E := (show Hid (eqB xs ys = false) from decide_eq_false (fun e => hs (by rw [e])))
          generalize xs.getD k ByteArray.empty = s1 at *
          generalize ys.getD k ByteArray.empty = s2 at *
          clear hs HTS
          go_wp2
          go_ret
          exact ret_v (congrArg Value.bool E.out.symm) HB.out
      · have E := (show Hid (eqB xs ys = true) from decide_eq_true (by have h := HT.out; rw [List.take_of_length_le (by omega), List.take_of_length_le (by have := HL.out; omega)] at h; exact h))
        go_wp2
        go_ret
        exact ret_v (congrArg Value.bool E.out.symm) HB.out
  · have hne : ((xs.length : Int) != (ys.length : Int)) = true := by rw [bne_iff_ne]; omega
    have E := (show Hid (eqB xs ys = false) from decide_eq_false (fun e => hl (by rw [e])))
    clear hl
    go_enter Try.func14, Try.ntmps14
    go_wp2
    go_ret
    exact ret_v (congrArg Value.bool E.out.symm) HB.out

end Go.Proofs.Qxb6617164a
