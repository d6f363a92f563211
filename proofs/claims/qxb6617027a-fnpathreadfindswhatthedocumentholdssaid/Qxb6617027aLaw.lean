/-
  Seat b6617027a: the law's own walk.
-/
import Derived.Test.Qxb6617027aPath
import Derived.Test.Qxb6617027aBytes
namespace Go.Proofs.Qxb6617027a
open Go.RowKit

/-- What the loop's two rounds find in memory. -/
def Held (w : World) (a0 : Option Addr) (s0 : List ByteArray) (a8 : Option Addr) (s8 : List ByteArray) (aP aL : Option Addr) (cL : Nat) (kt t kl kn km t2 : ByteArray) (g m m1 : Nat) (wr : World) : Prop :=
  Below w.heap.size w wr ∧ Strs wr a0 s0 ∧ Strs wr a8 s8 ∧ Strs wr aP s0 ∧ Strs wr aL s8 ∧ DocAt wr kt t kl (.slice aL s8.length cL) kn km t2 m m1 ∧ g < wr.heap.size ∧ wr.cell? ⟨g, 0, none⟩ = some (.map (some m))

theorem Held.below {w : World} {a0 : Option Addr} {s0 : List ByteArray} {a8 : Option Addr} {s8 : List ByteArray} {aP aL : Option Addr} {cL : Nat} {kt t kl kn km t2 : ByteArray} {g m m1 : Nat} {wr w1 : World}
    (h : Held w a0 s0 a8 s8 aP aL cL kt t kl kn km t2 g m m1 wr) (hb : Below wr.heap.size wr w1) : Held w a0 s0 a8 s8 aP aL cL kt t kl kn km t2 g m m1 w1 := by
  obtain ⟨h1, h2, h3, h4, h5, h6, h7, h8⟩ := h
  exact ⟨h1.trans (hb.mono h1.size), h2.below hb, h3.below hb, h4.below hb, h5.below hb, h6.below hb, Nat.lt_of_lt_of_le h7 hb.size, (hb.cell (p := ⟨g, 0, none⟩) h7).trans h8⟩

/-- What was read fits what the law's walk found. -/
theorem fits_of {st ta : Int} {t t2 : ByteArray} {a8 aL : Option Addr} {s8 : List ByteArray} {tx : ByteArray} {la : Option Addr} {ln : Nat} {w : World} (e1 : tx = gotT ta t t2 st) (e2 : la = gotA ta aL st) (e3 : ln = gotN ta s8.length st)
    (hs : Strs w aL s8) (hn : aL = none ↔ a8 = none) : Fits st ta t t2 a8 s8 tx la ln w := by
  subst e1; subst e2; subst e3
  refine ⟨fun h => ⟨by simp [gotT, h], fun h3 => ?_, fun h3 => ?_⟩, fun h => ⟨by simp [gotA, h], by simp [gotT, h, textOf]⟩⟩
  · rw [show gotA ta aL st = aL by simp [gotA, h, h3], show gotN ta s8.length st = s8.length by simp [gotN, h, h3]]
    exact ⟨rfl, hs, hn.symm⟩
  · exact ⟨by simp [gotA, h3], by simp [gotN, h3]⟩

theorem held_start {w wa wb wc : World} {a0 : Option Addr} {s0 : List ByteArray} {a8 : Option Addr} {s8 : List ByteArray} {aP aL : Option Addr} {cL : Nat} {kt t kl kn km t2 : ByteArray} {m m1 : Nat}
    (h0 : Strs w a0 s0) (h8 : Strs w a8 s8) (hP : Strs wa aP s0) (bP : Below w.heap.size w wa) (hL : Strs wb aL s8) (bL : Below wa.heap.size wa wb) (hd : DocAt wc kt t kl (.slice aL s8.length cL) kn km t2 m m1) (bD : Below wb.heap.size wb wc) :
    Held w a0 s0 a8 s8 aP aL cL kt t kl kn km t2 wc.heap.size m m1 (wc.alloc (.cells #[.map (some m)] 29)) := by
  have b1 : Below wc.heap.size wc (wc.alloc (.cells #[.map (some m)] 29)) := (Below.refl _ _).alloc (Nat.le_refl _) _
  have b2 : Below wb.heap.size wb (wc.alloc (.cells #[.map (some m)] 29)) := bD.trans (b1.mono bD.size)
  have b3 : Below wa.heap.size wa (wc.alloc (.cells #[.map (some m)] 29)) := bL.trans (b2.mono bL.size)
  have b4 : Below w.heap.size w (wc.alloc (.cells #[.map (some m)] 29)) := bP.trans (b3.mono bP.size)
  refine ⟨b4, h0.below b4, h8.below b4, hP.below b3, hL.below b2, hd.below b1, by simp, ?_⟩
  exact cell_of_one (heap_alloc_new wc _)

theorem slice1h {w : World} {a : Option Addr} {ks : List ByteArray} {c : Nat} (hs : Strs w a ks) (h1 : 1 ≤ ks.length) (hc : ks.length ≤ c) :
    ∃ a', (∀ w, (Instr.slice 22 (.slice a ks.length c) (some (.int .i64 1)) none none).run Try.prog w = .ok (.slice a' ks.tail.length (c - 1)) w) ∧ Hid (Strs w a' ks.tail) := slice1 hs h1 hc

theorem hideq {α : Type} (x : α) : ∃ y, Hid (y = x) := ⟨x, rfl⟩

theorem docWalk_tail (a : Option Addr) (ks : List ByteArray) (cap : Nat) (kt kl kn km : ByteArray) (w : World) (hs : Strs w a ks.tail) :
    Calls Try.prog 10 #[.slice a (ks.length - 1) cap, .bool true, .string kt, .string kl, .string kn, .string km] w fun e w' => RetI (walkI kt kl kn km ks.tail) w e w' := by
  have h := docWalk_any a ks.tail cap kt kl kn km w hs
  rwa [List.length_tail] at h

theorem yes_ret {w w' : World} (h : Below w.heap.size w w') : Yes w (.returned (.bool true)) w' := ⟨rfl, h⟩

set_option maxRecDepth 100000 in
set_option maxHeartbeats 2000000 in
theorem law_walk (a0 : Option Addr) (s0 : List ByteArray) (c0 : Nat) (asker : Bool) (pk ik : ByteArray) (ta : Int) (kt t kl : ByteArray) (a8 : Option Addr) (s8 : List ByteArray) (c8 : Nat) (kn km t2 : ByteArray) (w : World)
    (hs0 : Strs w a0 s0) (hs8 : Strs w a8 s8) (hc0 : s0.length ≤ c0) (w2 : pk.size ≤ maxLen) (w3 : ik.size ≤ maxLen) (w5 : kt.size ≤ maxLen) (w6 : t.size ≤ maxLen) (w7 : kl.size ≤ maxLen) (w9 : kn.size ≤ maxLen) (w10 : km.size ≤ maxLen) (w11 : t2.size ≤ maxLen) :
    Calls Try.prog 3 #[.slice a0 s0.length c0, .bool asker, .string pk, .string ik, .int .i64 ta, .string kt, .string t, .string kl, .slice a8 s8.length c8, .string kn, .string km, .string t2] w
      fun e w' => Yes w e w' := by
  have HS := (show Hid _ from And.intro hs0 hs8)
  have HD := (show Hid _ from And.intro w5 (And.intro w7 (And.intro w9 w10)))
  clear hs0 hs8
  unfold maxLen at w2 w3 w5 w6 w7 w9 w10 w11
  go_enter Try.func3, Try.ntmps3
  go_wp2_with fail
  refine (zzBytes_any a0 s0 c0 asker pk ik ta kt t kl a8 s8 c8 kn km t2 w HS.out.1 HS.out.2 w2 w3 w5 w6 w7 w9 w10 w11).mono ?_
  rintro e w' ⟨⟨bb, rfl, hbb⟩, hw⟩
  subst w'
  cases bb with
  | false =>
    go_wp2
    go_ret
    exact yes_ret (Below.refl _ _)
  | true =>
    obtain ⟨hl0, hl8⟩ := hbb rfl
    go_wp2_with (first | (go_at_call_of 5 (Value.int IntKind.i64 0); refine (stringsBytes_any a0 s0 c0 0 _ HS.out.1 (by omega) (by omega)).mono ?_; rintro e w' ⟨⟨r1, rfl, hr10, hr11⟩, hw⟩; subst w') | (go_at_call 5; refine (stringsBytes_any a8 s8 c8 _ _ HS.out.2 (by omega) (by omega)).mono ?_; rintro e w' ⟨⟨r2, rfl, hr20, hr21⟩, hw⟩; subst w') | (go_at_call 6; refine (addBytes_any _ _ _ (by omega) (by omega) (by omega) (by omega)).mono ?_; rintro e w' ⟨⟨r, rfl, hr0, hr1⟩, hw⟩; subst w'))
    · go_ret
      exact yes_ret (Below.refl _ _)
    · go_ret
      exact yes_ret (Below.refl _ _)
    have hk1 : 1 ≤ s0.length := by
      have h : ((s0.length : Int) == 0) = false := by assumption
      simp at h
      cases s0 with
      | nil => simp at h
      | cons _ _ => simp
    refine (cloneStrings_any a0 s0 c0 w HS.out.1 hl0).mono ?_
    rintro e wa ⟨aP, cP, rfl, hPn, hPc, hPs, hPb⟩
    go_wp2_with fail
    refine (cloneStrings_any a8 s8 c8 wa (HS.out.2.below hPb) hl8).mono ?_
    rintro e wb ⟨aL, cL, rfl, hLn, hLc, hLs, hLb⟩
    go_wp2_with fail
    refine (doc3_any kt t kl aL s8.length cL kn km t2 wb HD.out.1 HD.out.2.1 HD.out.2.2.1 HD.out.2.2.2).mono ?_
    rintro e wc ⟨m, m1, rfl, hdoc, hDb⟩
    have HH := (show Hid _ from held_start HS.out.1 HS.out.2 hPs hPb hLs hLb hdoc hDb)
    have HL := (show Hid _ from hLn)
    clear hPn hPs hPb hLn hLs hLb hdoc hDb hLc
    go_wp2_with fail
    have hle : r ≤ 1048576 := by assumption
    rw [show decide (1048576 < r) = false from decide_eq_false (by omega)]
    clear hle
    go_loopw [29] (fun i wr => ∃ k : Nat, k ≤ 2 ∧ i = .int .i64 k ∧ Held w a0 s0 a8 s8 aP aL cL kt t kl kn km t2 wc.heap.size m m1 wr) (fun i _ => 2 - (intOf i).toNat)
    case atStart => exact ⟨0, by omega, rfl, HH.out⟩
    case round =>
      obtain ⟨k, hk, rfl, hh⟩ := hrel
      have hcl := hh.2.2.2.2.2.2.2
      have H := (show Hid _ from hh)
      clear hh HH
      by_cases hk2 : k = 2
      · subst hk2
        go_wp2
        go_ret
        exact yes_ret H.out.1
      obtain ⟨a', hsl, HT⟩ := slice1h H.out.2.1 hk1 hc0
      have hk01 : k = 0 ∨ k = 1 := by omega
      cases asker
      all_goals rcases hk01 with rfl | rfl
      · by_cases hpi : pk = ik
        · have hst : stOf false pk ik kt kl kn km s0 = walkI kt kl kn km s0.tail := by simp [stOf, hpi]
          have ep := seq_t hpi
          obtain ⟨tx, e1⟩ := hideq (gotT ta t t2 (stOf false pk ik kt kl kn km s0))
          obtain ⟨la, e2⟩ := hideq (gotA ta aL (stOf false pk ik kt kl kn km s0))
          obtain ⟨ln, e3⟩ := hideq (gotN ta s8.length (stOf false pk ik kt kl kn km s0))
          obtain ⟨lc, e4⟩ := hideq (gotN ta cL (stOf false pk ik kt kl kn km s0))
          have HST := (show Hid _ from hst)
          clear hst hpi
          go_wp2_with (first | (go_at_call 9; refine (pathRead_any aP s0 cP false pk ik kt t kl aL s8.length cL kn km t2 m m1 ta _ H.out.2.2.2.1 H.out.2.2.2.2.2.1 hk1 hPc tx la ln lc e1.out e2.out e3.out e4.out).mono ?_; rintro e w1 ⟨rfl, hb1⟩) | (go_at_call 10; refine (docWalk_tail a' s0 (c0 - 1) kt kl kn km _ (HT.out.below hb1)).mono ?_; rintro e w1' ⟨rfl, hw⟩; subst w1') | (go_at_call 11; refine (readMatches_any (walkI kt kl kn km s0.tail) ta t t2 a8 s8 c8 tx la ln lc _ (H.out.2.2.1.below hb1) (fits_of (aL := aL) (HST.out ▸ e1.out) (HST.out ▸ e2.out) (HST.out ▸ e3.out) (H.out.2.2.2.2.1.below hb1) HL.out)).mono ?_; rintro e w2 ⟨rfl, hb2⟩))
          go_roundw
          case rel => exact ⟨0 + 1, by omega, by go_num, (Held.below (Held.below H.out hb1) hb2)⟩
          case measure => simp [intOf]
        · have hst : stOf false pk ik kt kl kn km s0 = 5 := by simp [stOf, hpi]
          have ep := seq_f hpi
          obtain ⟨tx, e1⟩ := hideq (gotT ta t t2 (stOf false pk ik kt kl kn km s0))
          obtain ⟨la, e2⟩ := hideq (gotA ta aL (stOf false pk ik kt kl kn km s0))
          obtain ⟨ln, e3⟩ := hideq (gotN ta s8.length (stOf false pk ik kt kl kn km s0))
          obtain ⟨lc, e4⟩ := hideq (gotN ta cL (stOf false pk ik kt kl kn km s0))
          have HST := (show Hid _ from hst)
          clear hst hpi
          go_wp2_with (first | (go_at_call 9; refine (pathRead_any aP s0 cP false pk ik kt t kl aL s8.length cL kn km t2 m m1 ta _ H.out.2.2.2.1 H.out.2.2.2.2.2.1 hk1 hPc tx la ln lc e1.out e2.out e3.out e4.out).mono ?_; rintro e w1 ⟨rfl, hb1⟩) | (go_at_call 11; refine (readMatches_any 5 ta t t2 a8 s8 c8 tx la ln lc _ (H.out.2.2.1.below hb1) (fits_of (aL := aL) (HST.out ▸ e1.out) (HST.out ▸ e2.out) (HST.out ▸ e3.out) (H.out.2.2.2.2.1.below hb1) HL.out)).mono ?_; rintro e w2 ⟨rfl, hb2⟩))
          go_roundw
          case rel => exact ⟨0 + 1, by omega, by go_num, (Held.below (Held.below H.out hb1) hb2)⟩
          case measure => simp [intOf]
      · obtain ⟨tx, e1⟩ := hideq (gotT ta t t2 (stOf true pk ik kt kl kn km s0))
        obtain ⟨la, e2⟩ := hideq (gotA ta aL (stOf true pk ik kt kl kn km s0))
        obtain ⟨ln, e3⟩ := hideq (gotN ta s8.length (stOf true pk ik kt kl kn km s0))
        obtain ⟨lc, e4⟩ := hideq (gotN ta cL (stOf true pk ik kt kl kn km s0))
        go_wp2_with (first | (go_at_call 9; refine (pathRead_any aP s0 cP true pk ik kt t kl aL s8.length cL kn km t2 m m1 ta _ H.out.2.2.2.1 H.out.2.2.2.2.2.1 hk1 hPc tx la ln lc e1.out e2.out e3.out e4.out).mono ?_; rintro e w1 ⟨rfl, hb1⟩) | (go_at_call 10; refine (docWalk_any a0 s0 c0 kt kl kn km _ (H.out.2.1.below hb1)).mono ?_; rintro e w1' ⟨rfl, hw⟩; subst w1') | (go_at_call 11; refine (readMatches_any (walkI kt kl kn km s0) ta t t2 a8 s8 c8 tx la ln lc _ (H.out.2.2.1.below hb1) (fits_of (aL := aL) e1.out e2.out e3.out (H.out.2.2.2.2.1.below hb1) HL.out)).mono ?_; rintro e w2 ⟨rfl, hb2⟩))
        go_roundw
        case rel => exact ⟨1 + 1, by omega, by go_num, (Held.below (Held.below H.out hb1) hb2)⟩
        case measure => simp [intOf]
      · obtain ⟨tx, e1⟩ := hideq (gotT ta t t2 (stOf true pk ik kt kl kn km s0))
        obtain ⟨la, e2⟩ := hideq (gotA ta aL (stOf true pk ik kt kl kn km s0))
        obtain ⟨ln, e3⟩ := hideq (gotN ta s8.length (stOf true pk ik kt kl kn km s0))
        obtain ⟨lc, e4⟩ := hideq (gotN ta cL (stOf true pk ik kt kl kn km s0))
        go_wp2_with (first | (go_at_call 9; refine (pathRead_any aP s0 cP true pk ik kt t kl aL s8.length cL kn km t2 m m1 ta _ H.out.2.2.2.1 H.out.2.2.2.2.2.1 hk1 hPc tx la ln lc e1.out e2.out e3.out e4.out).mono ?_; rintro e w1 ⟨rfl, hb1⟩) | (go_at_call 10; refine (docWalk_any a0 s0 c0 kt kl kn km _ (H.out.2.1.below hb1)).mono ?_; rintro e w1' ⟨rfl, hw⟩; subst w1') | (go_at_call 11; refine (readMatches_any (walkI kt kl kn km s0) ta t t2 a8 s8 c8 tx la ln lc _ (H.out.2.2.1.below hb1) (fits_of (aL := aL) e1.out e2.out e3.out (H.out.2.2.2.2.1.below hb1) HL.out)).mono ?_; rintro e w2 ⟨rfl, hb2⟩))
        go_roundw
        case rel => exact ⟨0 + 1, by omega, by go_num, (Held.below (Held.below H.out hb1) hb2)⟩
        case measure => simp [intOf]
      · by_cases hpi : pk = ik
        · have hst : stOf false pk ik kt kl kn km s0 = walkI kt kl kn km s0.tail := by simp [stOf, hpi]
          have ep := seq_t hpi
          obtain ⟨tx, e1⟩ := hideq (gotT ta t t2 (stOf false pk ik kt kl kn km s0))
          obtain ⟨la, e2⟩ := hideq (gotA ta aL (stOf false pk ik kt kl kn km s0))
          obtain ⟨ln, e3⟩ := hideq (gotN ta s8.length (stOf false pk ik kt kl kn km s0))
          obtain ⟨lc, e4⟩ := hideq (gotN ta cL (stOf false pk ik kt kl kn km s0))
          have HST := (show Hid _ from hst)
          clear hst hpi
          go_wp2_with (first | (go_at_call 9; refine (pathRead_any aP s0 cP false pk ik kt t kl aL s8.length cL kn km t2 m m1 ta _ H.out.2.2.2.1 H.out.2.2.2.2.2.1 hk1 hPc tx la ln lc e1.out e2.out e3.out e4.out).mono ?_; rintro e w1 ⟨rfl, hb1⟩) | (go_at_call 10; refine (docWalk_tail a' s0 (c0 - 1) kt kl kn km _ (HT.out.below hb1)).mono ?_; rintro e w1' ⟨rfl, hw⟩; subst w1') | (go_at_call 11; refine (readMatches_any (walkI kt kl kn km s0.tail) ta t t2 a8 s8 c8 tx la ln lc _ (H.out.2.2.1.below hb1) (fits_of (aL := aL) (HST.out ▸ e1.out) (HST.out ▸ e2.out) (HST.out ▸ e3.out) (H.out.2.2.2.2.1.below hb1) HL.out)).mono ?_; rintro e w2 ⟨rfl, hb2⟩))
          go_roundw
          case rel => exact ⟨1 + 1, by omega, by go_num, (Held.below (Held.below H.out hb1) hb2)⟩
          case measure => simp [intOf]
        · have hst : stOf false pk ik kt kl kn km s0 = 5 := by simp [stOf, hpi]
          have ep := seq_f hpi
          obtain ⟨tx, e1⟩ := hideq (gotT ta t t2 (stOf false pk ik kt kl kn km s0))
          obtain ⟨la, e2⟩ := hideq (gotA ta aL (stOf false pk ik kt kl kn km s0))
          obtain ⟨ln, e3⟩ := hideq (gotN ta s8.length (stOf false pk ik kt kl kn km s0))
          obtain ⟨lc, e4⟩ := hideq (gotN ta cL (stOf false pk ik kt kl kn km s0))
          have HST := (show Hid _ from hst)
          clear hst hpi
          go_wp2_with (first | (go_at_call 9; refine (pathRead_any aP s0 cP false pk ik kt t kl aL s8.length cL kn km t2 m m1 ta _ H.out.2.2.2.1 H.out.2.2.2.2.2.1 hk1 hPc tx la ln lc e1.out e2.out e3.out e4.out).mono ?_; rintro e w1 ⟨rfl, hb1⟩) | (go_at_call 11; refine (readMatches_any 5 ta t t2 a8 s8 c8 tx la ln lc _ (H.out.2.2.1.below hb1) (fits_of (aL := aL) (HST.out ▸ e1.out) (HST.out ▸ e2.out) (HST.out ▸ e3.out) (H.out.2.2.2.2.1.below hb1) HL.out)).mono ?_; rintro e w2 ⟨rfl, hb2⟩))
          go_roundw
          case rel => exact ⟨1 + 1, by omega, by go_num, (Held.below (Held.below H.out hb1) hb2)⟩
          case measure => simp [intOf]

end Go.Proofs.Qxb6617027a
