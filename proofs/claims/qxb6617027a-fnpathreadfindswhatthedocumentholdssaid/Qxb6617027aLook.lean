/-
  Seat b6617027a: (Document).lookup finds what the law's walk finds.
-/
import Derived.Test.Qxb6617027aDoc
namespace Go.Proofs.Qxb6617027a
open Go.RowKit
open Go.Maps Go.WideMaps Go.WideElems

/-- What lies at a state of the law's walk. -/
def valOf (m m1 : Nat) (t : ByteArray) (lv : Value) (t2 : ByteArray) (st : Int) : Value :=
  if st = 0 then .iface 27 (.map (some m)) else if st = 1 then .iface 27 (.map (some m1)) else if st = 2 then .iface 9 (.string t) else if st = 3 then .iface 22 lv else if st = 4 then .iface 9 (.string t2) else .nilIface

theorem lit_ne {a b : ByteArray} (h : ¬ a = b) : Lit.string a.data.toList ≠ Lit.string b.data.toList := by
  intro e
  simp only [Lit.string.injEq] at e
  exact h (by cases a; cases b; simp only [ByteArray.mk.injEq]; exact Array.ext' e)

theorem isMap_put {D : DataW Value} (h : IsMap D) (k : Lit) (d : DataW Value) : IsMap (D.put k d) := by
  obtain ⟨es, rfl⟩ := h
  exact ⟨_, rfl⟩

theorem atKey_nil (k : Lit) (z : DataW Value) : (DataW.map []).atKey k z = z := rfl

theorem look0 {w : World} {kt t kl : ByteArray} {lv : Value} {kn km t2 : ByteArray} {m m1 : Nat} (hd : DocAt w kt t kl lv kn km t2 m m1) {s : ByteArray} (hs : s.size ≤ maxLen) :
    (Instr.lookup 27 (.map (some m)) (.string s) false).run Try.prog w = .ok (valOf m m1 t lv t2 (stepI kt kl kn km 0 s)) w := by
  obtain ⟨v, ps, hrun, hv⟩ := hd.1.lookup law Try.underlying27 (zero20 w) (zd := .held .nilIface) (zp := []) rfl (keyOf_string_mk Try.underlying9 hs)
  rw [hrun]
  have e : DataW.held v = (DocD kt t kl lv kn m1).atKey (.string s.data.toList) (.held .nilIface) := by
    have := hv
    simp only [RH, Option.some.injEq, Prod.mk.injEq] at this
    exact this.1
  have e2 : v = valOf m m1 t lv t2 (stepI kt kl kn km 0 s) := by
    unfold DocD at e
    unfold stepI
    rw [if_pos rfl]
    have i0 : IsMap (DataW.map ([] : List (Lit × DataW Value))) := isMap_empty
    by_cases h1 : s = kn
    · rw [if_pos h1]
      subst h1
      rw [atKey_put_same (k := Lit.string _) (isMap_put (isMap_put i0 _ _) _ _) trivial] at e
      simpa [valOf] using e
    · rw [if_neg h1]
      rw [atKey_put_other (lit_ne h1)] at e
      by_cases h2 : s = kl
      · rw [if_pos h2]
        subst h2
        rw [atKey_put_same (k := Lit.string _) (isMap_put i0 _ _) trivial] at e
        simpa [valOf] using e
      · rw [if_neg h2]
        rw [atKey_put_other (lit_ne h2)] at e
        by_cases h3 : s = kt
        · rw [if_pos h3]
          subst h3
          rw [atKey_put_same (k := Lit.string _) i0 trivial] at e
          simpa [valOf] using e
        · rw [if_neg h3]
          rw [atKey_put_other (lit_ne h3), atKey_nil] at e
          simpa [valOf] using e
  rw [e2]

theorem look1 {w : World} {kt t kl : ByteArray} {lv : Value} {kn km t2 : ByteArray} {m m1 : Nat} (hd : DocAt w kt t kl lv kn km t2 m m1) {s : ByteArray} (hs : s.size ≤ maxLen) :
    (Instr.lookup 27 (.map (some m1)) (.string s) false).run Try.prog w = .ok (valOf m m1 t lv t2 (stepI kt kl kn km 1 s)) w := by
  obtain ⟨v, ps, hrun, hv⟩ := hd.2.lookup law Try.underlying27 (zero20 w) (zd := .held .nilIface) (zp := []) rfl (keyOf_string_mk Try.underlying9 hs)
  rw [hrun]
  have e : DataW.held v = (DocN km t2).atKey (.string s.data.toList) (.held .nilIface) := by
    have := hv
    simp only [RH, Option.some.injEq, Prod.mk.injEq] at this
    exact this.1
  have e2 : v = valOf m m1 t lv t2 (stepI kt kl kn km 1 s) := by
    unfold DocN at e
    unfold stepI
    rw [if_neg (by omega), if_pos rfl]
    have i0 : IsMap (DataW.map ([] : List (Lit × DataW Value))) := isMap_empty
    by_cases h1 : s = km
    · rw [if_pos h1]
      subst h1
      rw [atKey_put_same (k := Lit.string _) i0 trivial] at e
      simpa [valOf] using e
    · rw [if_neg h1]
      rw [atKey_put_other (lit_ne h1), atKey_nil] at e
      simpa [valOf] using e
  rw [e2]

theorem DocAt.below {w w' : World} {kt t kl : ByteArray} {lv : Value} {kn km t2 : ByteArray} {m m1 : Nat} (h : DocAt w kt t kl lv kn km t2 m m1) (hb : Below w.heap.size w w') : DocAt w' kt t kl lv kn km t2 m m1 := by
  refine ⟨?_, ?_⟩
  · obtain ⟨es, cl, hh, r⟩ := h.1
    exact ⟨es, cl, by rw [hb.block m h.1.lt]; exact hh, r⟩
  · obtain ⟨es, cl, hh, r⟩ := h.2
    exact ⟨es, cl, by rw [hb.block m1 h.2.lt]; exact hh, r⟩

/-- Once the walk is off the two objects it stays off. -/
theorem walkI_dead (kt kl kn km : ByteArray) (ks : List ByteArray) (k : Nat) (h : k < ks.length) (h0 : walkI kt kl kn km (ks.take k) ≠ 0) (h1 : walkI kt kl kn km (ks.take k) ≠ 1) : walkI kt kl kn km ks = 5 := by
  have five : ∀ l : List ByteArray, l.foldl (stepI kt kl kn km) 5 = 5 := by
    intro l
    induction l with
    | nil => rfl
    | cons x r ih => exact ih
  have e : ks = ks.take k ++ ks[k] :: ks.drop (k + 1) := by rw [← List.drop_eq_getElem_cons h, List.take_append_drop]
  have : walkI kt kl kn km ks = (ks[k] :: ks.drop (k + 1)).foldl (stepI kt kl kn km) (walkI kt kl kn km (ks.take k)) := by
    show ks.foldl (stepI kt kl kn km) 0 = _
    conv => lhs; rw [e]
    rw [List.foldl_append]
    rfl
  rw [this, List.foldl_cons]
  have hs : stepI kt kl kn km (walkI kt kl kn km (ks.take k)) ks[k] = 5 := by
    unfold stepI
    rw [if_neg h0, if_neg h1]
  rw [hs]
  exact five _

theorem assert_map (m : Option Nat) (w : World) : (Instr.typeAssert (.iface 27 (.map m)) 20 27 true).run Try.prog w = .ok (.tuple #[.map m, .bool true]) w := by kernel_rfl
theorem assert_str (s : ByteArray) (w : World) : (Instr.typeAssert (.iface 9 (.string s)) 20 27 true).run Try.prog w = .ok (.tuple #[.map none, .bool false]) w := by kernel_rfl
theorem assert_lst (v : Value) (w : World) : (Instr.typeAssert (.iface 22 v) 20 27 true).run Try.prog w = .ok (.tuple #[.map none, .bool false]) w := by kernel_rfl
theorem assert_nil (w : World) : (Instr.typeAssert .nilIface 20 27 true).run Try.prog w = .ok (.tuple #[.map none, .bool false]) w := by kernel_rfl

def RetV (v : Value) (w : World) (e : Ending) (w' : World) : Prop := e = .returned v ∧ Below w.heap.size w w'

theorem ret_v {v v' : Value} {w w' : World} (h : v = v') (hb : Below w.heap.size w w') : RetV v' w (.returned v) w' := ⟨by rw [h], hb⟩

theorem assert_off (m m1 : Nat) (t : ByteArray) (lv : Value) (t2 : ByteArray) (st : Int) (h0 : st ≠ 0) (h1 : st ≠ 1) (w : World) :
    (Instr.typeAssert (valOf m m1 t lv t2 st) 20 27 true).run Try.prog w = .ok (.tuple #[.map none, .bool false]) w := by
  unfold valOf
  rw [if_neg h0, if_neg h1]
  split
  · exact assert_str _ _
  · split
    · exact assert_lst _ _
    · split
      · exact assert_str _ _
      · exact assert_nil _

set_option maxHeartbeats 1000000 in
theorem lookup_any (a : Option Addr) (ks : List ByteArray) (cap : Nat) (kt t kl : ByteArray) (lv : Value) (kn km t2 : ByteArray) (m m1 : Nat) (w : World) (hs : Strs w a ks) (hd : DocAt w kt t kl lv kn km t2 m m1) :
    Calls Try.prog 14 #[.agg #[.map (some m)], .slice a ks.length cap] w fun e w' => RetV (valOf m m1 t lv t2 (walkI kt kl kn km ks)) w e w' := by
  have hb1 : Below w.heap.size w (w.alloc (.cells #[.map (some m)] 29)) := (Below.refl _ _).alloc (Nat.le_refl _) _
  obtain ⟨hl, hc⟩ := hs.below hb1
  have hl' := hl
  unfold maxLen at hl
  have HC := (show Hid _ from hc)
  have HD := (show Hid _ from hd.below hb1)
  have HB := (show Hid _ from hb1)
  clear hc hd hb1 hl' hs
  go_enter Try.func14, Try.ntmps14
  go_wp2
  go_loop [5, 15] (fun v i => ∃ (k : Nat), k ≤ ks.length ∧ i = .int .i64 k ∧ v = valOf m m1 t lv t2 (walkI kt kl kn km (ks.take k))) (fun _ i => ks.length - (intOf i).toNat)
  case atStart => exact ⟨0, Nat.zero_le _, rfl, rfl⟩
  case round =>
    obtain ⟨k, hk, rfl, rfl⟩ := hrel
    obtain ⟨st, hst⟩ : ∃ st, st = walkI kt kl kn km (ks.take k) := ⟨_, rfl⟩
    rw [← hst]
    by_cases hlt : k < ks.length
    · obtain ⟨b, off, rfl, hb, hcell, hsz⟩ := HC.out k hlt
      have hsn := walkI_snoc kt kl kn km ks k hlt
      rw [← hst] at hsn
      obtain ⟨s, hs⟩ : ∃ s, s = ks.getD k ByteArray.empty := ⟨_, rfl⟩
      rw [← hs] at hsn hcell hsz
      have HS := (show Hid _ from hsn)
      have HT := (show Hid _ from hst)
      have HZ := (show Hid _ from hsz)
      clear hsn hs hst hsz
      by_cases h0 : st = 0
      · subst h0
        have ev : valOf m m1 t lv t2 0 = .iface 27 (.map (some m)) := rfl
        rw [ev]
        have hlk := look0 HD.out HZ.out
        rw [← HS.out] at hlk
        have ha := assert_map
        obtain ⟨v', hv'⟩ : ∃ v', v' = valOf m m1 t lv t2 (walkI kt kl kn km (List.take (k + 1) ks)) := ⟨_, rfl⟩
        rw [← hv'] at hlk
        have HV := (show Hid _ from hv')
        clear hv' ev
        go_wp2
        go_round
        case rel => exact ⟨k + 1, by omega, by go_num, HV.out⟩
        case measure => simp [intOf]; omega
      · by_cases h1 : st = 1
        · subst h1
          have ev : valOf m m1 t lv t2 1 = .iface 27 (.map (some m1)) := rfl
          rw [ev]
          have hlk := look1 HD.out HZ.out
          rw [← HS.out] at hlk
          have ha := assert_map
          obtain ⟨v', hv'⟩ : ∃ v', v' = valOf m m1 t lv t2 (walkI kt kl kn km (List.take (k + 1) ks)) := ⟨_, rfl⟩
          rw [← hv'] at hlk
          have HV := (show Hid _ from hv')
          clear hv' ev h0
          go_wp2
          go_round
          case rel => exact ⟨k + 1, by omega, by go_num, HV.out⟩
          case measure => simp [intOf]; omega
        · have hfin := (show Hid _ from walkI_dead kt kl kn km ks k hlt (by rw [← HT.out]; exact h0) (by rw [← HT.out]; exact h1))
          have ha := assert_off m m1 t lv t2 st h0 h1
          clear h0 h1
          go_wp2
          go_ret
          exact ⟨by rw [hfin.out]; rfl, HB.out⟩
    · have E := (show Hid _ from hst.trans (show walkI kt kl kn km (ks.take k) = walkI kt kl kn km ks by rw [List.take_of_length_le (by omega)]))
      clear hst
      go_wp2
      go_ret
      exact ret_v (congrArg (valOf m m1 t lv t2) E.out) HB.out

end Go.Proofs.Qxb6617027a
