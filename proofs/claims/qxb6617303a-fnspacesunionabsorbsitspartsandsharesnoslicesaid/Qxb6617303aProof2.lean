/-
  The row of the law 'FnSpacesUnionAbsorbsItsPartsAndSharesNoSlice': the frame after the guide's skeleton (law over slices), with slices of strings opened as 'Strs'.
-/
import Derived.Test.Qxb6617303aAbsorb
import Derived.WalkKit
import Derived.ProofKit
import Derived.OpenShut
import Derived.ShutString
import Derived.ChangeOld
import Derived.Below
import Derived.SliceStrings
namespace Go.Proofs.Qxb6617303a.fnSpacesUnionAbsorbsItsPartsAndSharesNoSlice
open Go.ChangeShapes Go.WideShapes Go.ChangeAt Go.RowKit
open Go.ChangeMaps (open_string shut_string)
set_option linter.unusedVariables false

theorem own : ownKnob Try.prog.godebug = none := by kernel_rfl
theorem laidOut : laidOutB Try.prog = true := by kernel_rfl

theorem strs_open {W : World} {x : Addr} {len cap : Nat} {zs : List ByteArray} (hl : len ≤ cap) (hm : cap ≤ maxLen) (hz : zs.length = cap)
    (hcell : ∀ i, i < zs.length → W.cell? (x.add i) = some (.string (zs.getD i ByteArray.empty))) (hw : ∀ s ∈ zs, s.size ≤ maxLen) : Strs W (some x) (zs.take len) := by
  refine ⟨by rw [List.length_take]; omega, fun k hk => ?_⟩
  rw [List.length_take] at hk
  have hc := hcell k (by omega)
  have h0 := hcell 0 (by omega)
  obtain ⟨b, off, spot⟩ := x
  have hspot : spot = none := by simpa [Addr.add] using World.cell?_spot h0
  subst hspot
  rw [add_plain] at hc
  have hkz : k < zs.length := by omega
  have hkl : k < len := by omega
  have e : (zs.take len).getD k ByteArray.empty = zs.getD k ByteArray.empty := by simp [List.getD_eq_getElem?_getD, hkl]
  rw [e]
  refine ⟨b, off, rfl, World.block_lt_of_cell? W _ hc, hc, ?_⟩
  have e2 : zs.getD k ByteArray.empty = zs[k] := by simp [List.getD_eq_getElem?_getD, hkz]
  rw [e2]
  exact hw _ (List.getElem_mem hkz)

set_option maxRecDepth 100000 in
set_option maxHeartbeats 800000 in
theorem lifted (os : Os) (started : os.Started) (H : Type) (enc : TypeId × Value → H) :
    ReturnsInHanded {} Try.checked os 3 .any (Rows.fnSpacesUnionAbsorbsItsPartsAndSharesNoSliceSpec.pre6 enc Try.prog Try.f3 Rows.fnSpacesUnionAbsorbsItsPartsAndSharesNoSliceRow.domain false) (Rows.fnSpacesUnionAbsorbsItsPartsAndSharesNoSliceSpec.post enc Try.prog Try.f3 false true false false) := by
  refine returnsInHanded_of_change (C := Try.checked) own started (by kernel_rfl) Try.func3
    (ChangeSpec.witness6 (enc := enc) (C := Try.checked) false ⟨#[], #[.bool false, .slice none 0 0, .bool false, .slice none 0 0], []⟩ 8 (by kernel_rfl) (by kernel_rfl) (by kernel_rfl) (by kernel_rfl)) ?_
  intro W base args ds gs before hval0 hW hcnd _
  have hval : ∀ (j : Nat) t v, Try.f3.params[j]? = some t → args[j]? = some v → Value.okWide Try.prog W .any base t v := hval0
  have hW' := hW
  obtain ⟨p, q, hA0, hV, rfl, hfz, hnd⟩ := hW
  have hA : DataW.TrodAll enc Try.prog W 0 (fun _ => true) true Try.f3.params.toList args.toList ds p := hA0
  rw [Try.params3] at hA hval
  obtain ⟨v0, vs0, d0, ds0, p0, q0, hargs, rfl, rfl, h0, r0⟩ := trodAll_cons hA
  obtain ⟨v1, vs1, d1, ds1, p1, q1, rfl, rfl, rfl, h1, r1⟩ := trodAll_cons r0
  obtain ⟨v2, vs2, d2, ds2, p2, q2, rfl, rfl, rfl, h2, r2⟩ := trodAll_cons r1
  obtain ⟨v3, vs3, d3, ds3, p3, q3, rfl, rfl, rfl, h3, r3⟩ := trodAll_cons r2
  obtain ⟨rfl, rfl, rfl⟩ := trodAll_nil r3
  obtain rfl : args = #[v0, v1, v2, v3] := by cases args; simp_all
  obtain ⟨rfl, rfl⟩ := trodVars_none hV
  obtain ⟨a0, rfl, rfl, rfl⟩ := open_bool Try.underlying4 (hval 0 4 v0 rfl rfl) h0
  obtain ⟨a1, len1, cap1, rfl⟩ := okWide_slice Try.underlying22 (hval 1 22 v1 rfl rfl)
  have k1 := h1
  have lt1 : ∀ x ∈ p1, x.block < W.heap.size := by obtain ⟨m, hm⟩ := k1; exact DataW.trod_lt m _ _ _ hm
  obtain ⟨s1, ln1, lc1, nc1, w1⟩ : ∃ ss, len1 = ss.length ∧ ss.length ≤ cap1 ∧ (a1 = none → cap1 = 0) ∧ Strs W a1 ss := by
    obtain ⟨fuel, hf⟩ := h1
    rcases open_strings Try.underlying22 Try.underlying9 (by kernel_rfl) hf with ⟨hcs, _⟩ | ⟨x, l, c, zs, hcs, _, hl, hm, hz, _, hcell, hwz⟩
    · simp [Value.cells] at hcs
      obtain ⟨rfl, rfl, rfl⟩ := hcs
      exact ⟨[], rfl, Nat.le_refl _, fun _ => rfl, Nat.zero_le _, fun k hk => by simp at hk⟩
    · simp [Value.cells] at hcs
      obtain ⟨rfl, rfl, rfl⟩ := hcs
      have hz' : zs.length = cap1 := by simpa using hz
      exact ⟨zs.take len1, by rw [List.length_take]; omega, by rw [List.length_take]; omega, (fun h => by cases h), strs_open hl hm hz' hcell hwz⟩
  subst ln1
  obtain ⟨a2, rfl, rfl, rfl⟩ := open_bool Try.underlying4 (hval 2 4 v2 rfl rfl) h2
  obtain ⟨a3, len3, cap3, rfl⟩ := okWide_slice Try.underlying22 (hval 3 22 v3 rfl rfl)
  have k3 := h3
  have lt3 : ∀ x ∈ p3, x.block < W.heap.size := by obtain ⟨m, hm⟩ := k3; exact DataW.trod_lt m _ _ _ hm
  obtain ⟨s3, ln3, lc3, nc3, w3⟩ : ∃ ss, len3 = ss.length ∧ ss.length ≤ cap3 ∧ (a3 = none → cap3 = 0) ∧ Strs W a3 ss := by
    obtain ⟨fuel, hf⟩ := h3
    rcases open_strings Try.underlying22 Try.underlying9 (by kernel_rfl) hf with ⟨hcs, _⟩ | ⟨x, l, c, zs, hcs, _, hl, hm, hz, _, hcell, hwz⟩
    · simp [Value.cells] at hcs
      obtain ⟨rfl, rfl, rfl⟩ := hcs
      exact ⟨[], rfl, Nat.le_refl _, fun _ => rfl, Nat.zero_le _, fun k hk => by simp at hk⟩
    · simp [Value.cells] at hcs
      obtain ⟨rfl, rfl, rfl⟩ := hcs
      have hz' : zs.length = cap3 := by simpa using hz
      exact ⟨zs.take len3, by rw [List.length_take]; omega, by rw [List.length_take]; omega, (fun h => by cases h), strs_open hl hm hz' hcell hwz⟩
  subst ln3
  clear hA0 hval0
  refine (absorb_walk a0 a1 s1 cap1 a2 a3 s3 cap3 W w1 w3).mono fun e W' ⟨he, bel⟩ => ?_
  subst he
  exact ⟨_, rfl, _, _, _, [], _, [], hW', trodAll_mk1 (shut_bool Try.underlying4 _), (trodAll_cons_mk (shut_bool Try.underlying4 _) (trodAll_cons_mk (Below.trod laidOut (by kernel_rfl) (of_decide_eq_true (by kernel_rfl)) k1 bel lt1) (trodAll_cons_mk (shut_bool Try.underlying4 _) (trodAll_cons_mk (Below.trod laidOut (by kernel_rfl) (of_decide_eq_true (by kernel_rfl)) k3 bel lt3) trodAll_mk0)))), rfl, bel.frame _, fun h => by cases h⟩

theorem over : Rows.fnSpacesUnionAbsorbsItsPartsAndSharesNoSliceRow.holds Try.pinned (OpenSpec.ofChange Rows.fnSpacesUnionAbsorbsItsPartsAndSharesNoSliceSpec) :=
  OpenClaim.holds_of_wide 3 Try.f3 rfl rfl rfl rfl rfl rfl rfl ⟨rfl, rfl, rfl, rfl, rfl⟩ rfl rfl rfl rfl rfl (by kernel_rfl) Try.func3 (by kernel_rfl)
    (of_decide_eq_true (by kernel_rfl)) (by unfold Func.isWrapper; first | (rw [if_pos (by decide +kernel)]; kernel_rfl) | (rw [if_neg (by decide +kernel)]; exact ⟨rfl, rfl⟩))
    (fun os started H enc _ => lifted os started H enc)

/-- THE STATEMENT -/
theorem proved : Rows.FnSpacesUnionAbsorbsItsPartsAndSharesNoSliceSaid := over
end Go.Proofs.Qxb6617303a.fnSpacesUnionAbsorbsItsPartsAndSharesNoSlice
