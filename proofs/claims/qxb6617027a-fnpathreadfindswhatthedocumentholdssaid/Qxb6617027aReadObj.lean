/-
  Seat b6617027a: (path).read under the object's own kind: the region that draws its order.
-/
import Derived.Test.Qxb6617027aRead
namespace Go.Proofs.Qxb6617027a
open Go.RowKit

/-- The lookup by 'names[1:]', in whatever later world, its length spelt as the walk spells it. -/
theorem lookup_tail (a' : Option Addr) (ks : List ByteArray) (cap : Nat) (kt t kl : ByteArray) (lv : Value) (kn km t2 : ByteArray) (m m1 : Nat) (w W : World) (hs : Strs w a' ks.tail) (hd : DocAt w kt t kl lv kn km t2 m m1) (hb : Below w.heap.size w W) :
    Calls Try.prog 14 #[.agg #[.map (some m)], .slice a' (ks.length - 1) cap] W fun e w' => RetV (valOf m m1 t lv t2 (walkI kt kl kn km ks.tail)) W e w' := by
  have h := lookup_any a' ks.tail cap kt t kl lv kn km t2 m m1 W (hs.below hb) (hd.below hb)
  rwa [List.length_tail] at h

set_option maxHeartbeats 1000000 in
theorem read_object_list (a : Option Addr) (ks : List ByteArray) (cap : Nat) (pk ik : ByteArray) (kt t kl : ByteArray) (al : Option Addr) (n c : Nat) (kn km t2 : ByteArray) (m m1 : Nat) (w : World) (hs : Strs w a ks) (hd : DocAt w kt t kl (.slice al n c) kn km t2 m m1)
    (hpi : pk = ik) (hk1 : 1 ≤ ks.length) (hkc : ks.length ≤ cap) :
    Calls Try.prog 12 #[.agg #[.slice a ks.length cap, .bool false, .string pk], .agg #[.map (some m), .map (some m), .string ik], .int .i64 1] w
      fun e w' => RetV (.agg #[.string ByteArray.empty, listOf (.slice al n c) (walkI kt kl kn km ks.tail)]) w e w' := by
  have hdec := decide_eq_true hpi
  obtain ⟨a', hsl, hs'⟩ := slice1 hs hk1 hkc
  have HS := (show Hid _ from And.intro hs' hd)
  clear hs hd hs' hpi
  obtain ⟨lb, hlb⟩ := assert_list m m1 t (.slice al n c) t2 (walkI kt kl kn km ks.tail)
  obtain ⟨la, ln, lc, hll⟩ := listOf_slice al n c (walkI kt kl kn km ks.tail)
  rw [hll] at hlb ⊢
  clear hll
  go_enter Try.func12, Try.ntmps12
  go_wp2_with (go_at_call 15; refine (readsObject_any (.slice a ks.length cap) pk ik _).mono ?_; rintro e w1 ⟨rfl, hb⟩; obtain ⟨c0, c1, f0, f1⟩ := read_cells hb; obtain ⟨p0, i1⟩ := read_boxes hb)
  go_region_with (go_at_call 14; refine (lookup_tail a' ks (cap - 1) kt t kl (.slice al n c) kn km t2 m m1 w _ HS.out.1 HS.out.2 ?_).mono ?_; (exact (read_mid hb).drew); rintro e w2 ⟨rfl, hb2⟩; have hb3 := hb.drew.trans (hb2.mono hb.size); obtain ⟨c0', c1', f0', f1'⟩ := read_cells hb3)
  all_goals go_wp2
  all_goals
    obtain ⟨d0, d1⟩ := two_cells (.string ⟨#[]⟩) (.slice la ln lc) c0' c1'
    exact bodyPost_ret (v := .agg #[.string ⟨#[]⟩, .slice la ln lc]) (by simp [results, Try.results12, go_sem, d0, d1]) rfl ⟨rfl, read_below hb3 _ _⟩

set_option maxHeartbeats 1000000 in
theorem read_object_text (a : Option Addr) (ks : List ByteArray) (cap : Nat) (pk ik : ByteArray) (kt t kl : ByteArray) (al : Option Addr) (n c : Nat) (kn km t2 : ByteArray) (m m1 : Nat) (ta : Int) (hta : ¬ ta = 1) (w : World) (hs : Strs w a ks) (hd : DocAt w kt t kl (.slice al n c) kn km t2 m m1)
    (hpi : pk = ik) (hk1 : 1 ≤ ks.length) (hkc : ks.length ≤ cap) :
    Calls Try.prog 12 #[.agg #[.slice a ks.length cap, .bool false, .string pk], .agg #[.map (some m), .map (some m), .string ik], .int .i64 ta] w
      fun e w' => RetV (.agg #[.string (textOf t t2 (walkI kt kl kn km ks.tail)), .slice none 0 0]) w e w' := by
  have hdec := decide_eq_true hpi
  have e1 : (ta == 1) = false := by simp [hta]
  obtain ⟨a', hsl, hs'⟩ := slice1 hs hk1 hkc
  have HS := (show Hid _ from And.intro hs' hd)
  clear hs hd hs' hpi hta
  obtain ⟨lb, hlb⟩ := assert_text m m1 t (.slice al n c) t2 (walkI kt kl kn km ks.tail)
  generalize textOf t t2 (walkI kt kl kn km ks.tail) = tx at *
  go_enter Try.func12, Try.ntmps12
  go_wp2_with (go_at_call 15; refine (readsObject_any (.slice a ks.length cap) pk ik _).mono ?_; rintro e w1 ⟨rfl, hb⟩; obtain ⟨c0, c1, f0, f1⟩ := read_cells hb; obtain ⟨p0, i1⟩ := read_boxes hb)
  go_region_with (go_at_call 14; refine (lookup_tail a' ks (cap - 1) kt t kl (.slice al n c) kn km t2 m m1 w _ HS.out.1 HS.out.2 ?_).mono ?_; (exact (read_mid hb).drew); rintro e w2 ⟨rfl, hb2⟩; have hb3 := hb.drew.trans (hb2.mono hb.size); obtain ⟨c0', c1', f0', f1'⟩ := read_cells hb3)
  all_goals go_wp2
  all_goals
    obtain ⟨d0, d1⟩ := two_cells (.string tx) (.slice none 0 0) c0' c1'
    exact bodyPost_ret (v := .agg #[.string tx, .slice none 0 0]) (by simp [results, Try.results12, go_sem, d0, d1]) rfl ⟨rfl, read_below hb3 _ _⟩

end Go.Proofs.Qxb6617027a
