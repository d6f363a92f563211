/-
  Seat b6617164a: zzItoa writes one to twenty digits.
-/
import Derived.Test.Qxb6617164aDigs
import Derived.Laws.BytesArg
namespace Go.Proofs.Qxb6617164a
open Go.RowKit

def ItoaP (w : World) (e : Ending) (w' : World) : Prop := ∃ d : ByteArray, e = .returned (.string d) ∧ isDig d = true ∧ d.size ≤ 20 ∧ Below w.heap.size w w'

/-- Block g is the array of twenty bytes 'zs', of which those from k on are digits. -/
def Buf (g k : Nat) (zs : List Int) (w : World) : Prop :=
  zs.length = 20 ∧ w.heap[g]? = some (.cells (zs.map (Value.int .u8)).toArray 38 (0, 0)) ∧ ∀ j, k ≤ j → j < 20 → 48 ≤ zs.getD j 0 ∧ zs.getD j 0 ≤ 57

theorem Buf.cell {g k : Nat} {zs : List Int} {w : World} (h : Buf g k zs w) (j : Nat) (hj : j < 20) : w.cell? ⟨g, j, none⟩ = some (.int .u8 (zs.getD j 0)) := by
  have hl : j < zs.length := by have := h.1; omega
  simp [World.cell?, h.2.1, List.getD_eq_getElem?_getD, hl]

theorem Buf.free {g k : Nat} {zs : List Int} {w : World} (h : Buf g k zs w) (j : Nat) : w.frozen? ⟨g, j, none⟩ = false := by
  simp [World.frozen?, h.2.1]

theorem Buf.set {g k : Nat} {zs : List Int} {w : World} (h : Buf g (k + 1) zs w) (c : Int) (h0 : 48 ≤ c) (h1 : c ≤ 57) : Buf g k (zs.set k c) (w.setCell ⟨g, k, none⟩ (.int .u8 c)) := by
  refine ⟨by simpa using h.1, ?_, ?_⟩
  · rw [heap_setCell_same w g k _ 38 _ h.2.1]
    simp
  · intro j h2 h3
    have hl : j < zs.length := by have := h.1; omega
    by_cases e : k = j
    · subst e
      simp [List.getD_eq_getElem?_getD, hl, h0, h1]
    · have := h.2.2 j (by omega) h3
      simpa [List.getD_eq_getElem?_getD, List.getElem?_set, e] using this

theorem pow_step {m : Int} {k : Nat} (h : m < 10 ^ (k + 1)) : m / 10 < 10 ^ k := by
  rw [Int.pow_succ] at h
  omega

/-- What the bytes from k on spell. -/
theorem buf_digits {g k : Nat} {zs : List Int} {w : World} (h : Buf g k zs w) (hk : k < 20) : isDig (strOfNums (zs.drop k)) = true ∧ (strOfNums (zs.drop k)).size ≤ 20 := by
  have hl : (zs.drop k).length = 20 - k := by rw [List.length_drop, h.1]
  refine ⟨?_, by rw [strOfNums_size, hl]; omega⟩
  unfold isDig digs
  rw [strOfNums_data, Bool.and_eq_true]
  refine ⟨?_, ?_⟩
  · rw [List.all_eq_true]
    intro c hc
    rw [List.mem_map] at hc
    obtain ⟨z, hz, rfl⟩ := hc
    rw [List.mem_iff_getElem] at hz
    obtain ⟨i, hi, rfl⟩ := hz
    have hj := h.2.2 (k + i) (by omega) (by omega)
    have e : zs.getD (k + i) 0 = (zs.drop k)[i] := by
      rw [List.getElem_drop, List.getD_eq_getElem?_getD, List.getElem?_eq_getElem (by have := h.1; omega)]; rfl
    rw [e] at hj
    generalize (zs.drop k)[i] = z at hj
    have : (UInt8.ofNat z.toNat).toNat = z.toNat := by rw [UInt8.toNat_ofNat']; omega
    unfold isD
    rw [this]
    simp; omega
  · have : (zs.drop k) ≠ [] := by intro e; rw [e] at hl; simp at hl; omega
    simpa using this

theorem slice_buf (g k : Nat) (hk : k < 20) (w : World) : (Instr.sliceAt 38 (.pointer (some ⟨g, 0, none⟩)) (some (.int .i64 k)) none none).run Try.prog w = .ok (.slice (some ⟨g, k, none⟩) (20 - k) (20 - k)) w := by
  have ht : Try.prog.underlying 38 = some (.array (Try.prog.arrayLen 38) (Try.prog.elem 38)) := by kernel_rfl
  have hl : Try.prog.arrayLen 38 = 20 := by kernel_rfl
  have hz : (Go.sizeOf (Try.prog.elem 38)).run Try.prog w = .ok 1 w := by kernel_rfl
  rw [run_sliceAt_array_l w 38 ⟨g, 0, none⟩ ht .i64 k (by omega) (by rw [hl]; omega), hz, hl]
  simp only [Result.andThen, slicedAt, Int.toNat_natCast, Nat.mul_one]
  have hp : (⟨g, 0, none⟩ : Addr).add k = ⟨g, k, none⟩ := by unfold Addr.add; split <;> simp_all
  rw [if_neg (by omega), hp]

theorem conv_buf {g k : Nat} {zs : List Int} {w : World} (h : Buf g k zs w) (hk : k < 20) : (convert 26 9 (.slice (some ⟨g, k, none⟩) (20 - k) (20 - k))).run Try.prog w = .ok (.string (strOfNums (zs.drop k))) w := by
  refine run_convert_bytes_arg w 26 5 Try.underlying26 Try.underlying5 g k (20 - k) (20 - k) (zs.drop k) (by rw [List.length_drop, h.1]) (fun i hi => ?_) 9 Try.underlying9
  rw [h.cell (k + i) (by omega)]
  simp [List.getD_eq_getElem?_getD]

set_option maxHeartbeats 400000 in
theorem itoa_any (n : Int) (w : World) (hn0 : 0 ≤ n) (hn1 : n ≤ 18446744073709551615) :
    Calls Try.prog 7 #[.int .u64 n] w fun e w' => ItoaP w e w' := by
  go_enter Try.func7, Try.ntmps7
  go_wp2
  go_loopw [0, 4] (fun nv iv wr => ∃ (m : Int) (k : Nat) (zs : List Int), nv = .int .u64 m ∧ iv = .int .i64 k ∧ 1 ≤ k ∧ k ≤ 20 ∧ 0 ≤ m ∧ m ≤ 18446744073709551615 ∧ Hid (m < 10 ^ k) ∧ Buf w.heap.size k zs wr ∧ Below w.heap.size w wr) (fun _ iv _ => (intOf iv).toNat)
  case atStart => exact ⟨n, 20, List.replicate 20 0, rfl, rfl, by omega, by omega, hn0, hn1, (show n < 10 ^ 20 by omega), ⟨by simp, heap_alloc_new _ _, fun j h1 h2 => by omega⟩, (Below.refl _ _).alloc (Nat.le_refl _) _⟩
  case round =>
    obtain ⟨m, k, zs, rfl, rfl, hk1, hk2, hm0, hm1, hmk, hbuf, hbel⟩ := hrel
    obtain ⟨k, rfl⟩ : ∃ k', k = k' + 1 := ⟨k - 1, by omega⟩
    have hc := hbuf.cell k (by omega)
    have hf := hbuf.free k
    have hset := (show Hid _ from hbuf.set (48 + m % 10) (by omega) (by omega))
    have hb2 := (show Hid _ from hbel.setCell (p := ⟨w.heap.size, k, none⟩) (Nat.le_refl _) (.int .u8 (48 + m % 10)))
    have hpw := (show Hid _ from pow_step hmk.out)
    clear hbuf hbel hmk
    by_cases hz : m / 10 = 0
    · have hsl := slice_buf w.heap.size k (by omega)
      have hcv := conv_buf hset.out (by omega)
      have hfin := (show Hid _ from buf_digits hset.out (by omega))
      generalize strOfNums ((zs.set k (48 + m % 10)).drop k) = d at hcv hfin
      have hz2 : (m / 10 == 0) = true := by simp [hz]
      clear hz
      go_wp2
      go_ret
      exact ⟨d, rfl, hfin.out.1, hfin.out.2, hb2.out⟩
    · have hz2 : (m / 10 == 0) = false := by simp [hz]
      have hk0 : (show Prop from 1 ≤ k) := by
        rcases Nat.eq_zero_or_pos k with e | e
        · subst e; have h := hpw.out; simp at h; omega
        · exact e
      clear hz
      go_wp2
      go_roundw
      case rel => exact ⟨m / 10, k, _, rfl, rfl, hk0, by omega, by omega, by omega, hpw.out, hset.out, hb2.out⟩
      case measure => simp [intOf]

end Go.Proofs.Qxb6617164a
