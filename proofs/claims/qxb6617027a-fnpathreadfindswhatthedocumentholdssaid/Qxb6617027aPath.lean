/-
  Seat b6617027a: (path).read in one contract; ZZpathRead.
-/
import Derived.Test.Qxb6617027aReadObj
import Derived.RegionTactic
import Derived.ChangeAlike
namespace Go.Proofs.Qxb6617027a
open Go.RowKit

/-- The state at which a path ends. -/
def stOf (asker : Bool) (pk ik kt kl kn km : ByteArray) (ks : List ByteArray) : Int := if asker = true then walkI kt kl kn km ks else if pk = ik then walkI kt kl kn km ks.tail else 5
def gotT (ta : Int) (t t2 : ByteArray) (st : Int) : ByteArray := if ta = 1 then ByteArray.empty else textOf t t2 st
def gotA (ta : Int) (al : Option Addr) (st : Int) : Option Addr := if ta = 1 ∧ st = 3 then al else none
def gotN (ta : Int) (n : Nat) (st : Int) : Nat := if ta = 1 ∧ st = 3 then n else 0

theorem got_list (al : Option Addr) (n c : Nat) (st : Int) : listOf (.slice al n c) st = .slice (gotA 1 al st) (gotN 1 n st) (gotN 1 c st) := by
  unfold listOf gotA gotN
  by_cases h : st = 3 <;> simp [h]

theorem read_any (a : Option Addr) (ks : List ByteArray) (cap : Nat) (asker : Bool) (pk ik : ByteArray) (kt t kl : ByteArray) (al : Option Addr) (n c : Nat) (kn km t2 : ByteArray) (m m1 : Nat) (ta : Int) (w : World) (hs : Strs w a ks) (hd : DocAt w kt t kl (.slice al n c) kn km t2 m m1)
    (hk1 : 1 ≤ ks.length) (hkc : ks.length ≤ cap) :
    Calls Try.prog 12 #[.agg #[.slice a ks.length cap, .bool asker, .string pk], .agg #[.map (some m), .map (some m), .string ik], .int .i64 ta] w
      fun e w' => RetV (.agg #[.string (gotT ta t t2 (stOf asker pk ik kt kl kn km ks)), .slice (gotA ta al (stOf asker pk ik kt kl kn km ks)) (gotN ta n (stOf asker pk ik kt kl kn km ks)) (gotN ta c (stOf asker pk ik kt kl kn km ks))]) w e w' := by
  by_cases hta : ta = 1
  · subst hta
    rw [← got_list, show gotT 1 t t2 (stOf asker pk ik kt kl kn km ks) = ByteArray.empty from rfl]
    cases asker with
    | true => exact read_asker_list a ks cap pk ik kt t kl al n c kn km t2 m m1 w hs hd
    | false =>
      by_cases hpi : pk = ik
      · rw [show stOf false pk ik kt kl kn km ks = walkI kt kl kn km ks.tail by simp [stOf, hpi]]
        exact read_object_list a ks cap pk ik kt t kl al n c kn km t2 m m1 w hs hd hpi hk1 hkc
      · rw [show stOf false pk ik kt kl kn km ks = 5 by simp [stOf, hpi]]
        exact read_off_list a ks.length cap pk ik hpi m w
  · rw [show gotT ta t t2 (stOf asker pk ik kt kl kn km ks) = textOf t t2 (stOf asker pk ik kt kl kn km ks) by simp [gotT, hta], show gotA ta al (stOf asker pk ik kt kl kn km ks) = none by simp [gotA, hta],
      show gotN ta n (stOf asker pk ik kt kl kn km ks) = 0 by simp [gotN, hta], show gotN ta c (stOf asker pk ik kt kl kn km ks) = 0 by simp [gotN, hta]]
    cases asker with
    | true => exact read_asker_text a ks cap pk ik kt t kl al n c kn km t2 m m1 ta hta w hs hd
    | false =>
      by_cases hpi : pk = ik
      · rw [show stOf false pk ik kt kl kn km ks = walkI kt kl kn km ks.tail by simp [stOf, hpi]]
        exact read_object_text a ks cap pk ik kt t kl al n c kn km t2 m m1 ta hta w hs hd hpi hk1 hkc
      · rw [show stOf false pk ik kt kl kn km ks = 5 by simp [stOf, hpi]]
        exact read_off_text a ks.length cap pk ik hpi m ta hta w

/-- The walk's slots hold plain values: the contract with the answers as letters. -/
theorem read_letters (a : Option Addr) (ks : List ByteArray) (cap : Nat) (asker : Bool) (pk ik : ByteArray) (kt t kl : ByteArray) (al : Option Addr) (n c : Nat) (kn km t2 : ByteArray) (m m1 : Nat) (ta : Int) (w : World) (hs : Strs w a ks) (hd : DocAt w kt t kl (.slice al n c) kn km t2 m m1)
    (hk1 : 1 ≤ ks.length) (hkc : ks.length ≤ cap) (tx : ByteArray) (la : Option Addr) (ln lc : Nat) (e1 : tx = gotT ta t t2 (stOf asker pk ik kt kl kn km ks)) (e2 : la = gotA ta al (stOf asker pk ik kt kl kn km ks)) (e3 : ln = gotN ta n (stOf asker pk ik kt kl kn km ks)) (e4 : lc = gotN ta c (stOf asker pk ik kt kl kn km ks)) (W : World) (hb : Below w.heap.size w W) :
    Calls Try.prog 12 #[.agg #[.slice a ks.length cap, .bool asker, .string pk], .agg #[.map (some m), .map (some m), .string ik], .int .i64 ta] W
      fun e w' => RetV (.agg #[.string tx, .slice la ln lc]) W e w' := by
  subst e1; subst e2; subst e3; subst e4
  exact read_any a ks cap asker pk ik kt t kl al n c kn km t2 m m1 ta W (hs.below hb) (hd.below hb) hk1 hkc

theorem below2 (w : World) (o1 o2 : Obj) : Below w.heap.size w ((w.alloc o1).alloc o2) := ((Below.refl _ _).alloc (Nat.le_refl _) _).alloc (by simp) _

theorem path_below {w w1 : World} {o1 o2 : Obj} (hb : Below ((w.alloc o1).alloc o2).heap.size ((w.alloc o1).alloc o2) w1) (o3 : Obj) : Below w.heap.size w (w1.alloc o3) := by
  have h := (below2 w o1 o2).trans (hb.mono (by simp; omega))
  exact h.alloc h.size _

set_option maxHeartbeats 1000000 in
theorem pathRead_any (a : Option Addr) (ks : List ByteArray) (cap : Nat) (asker : Bool) (pk ik : ByteArray) (kt t kl : ByteArray) (al : Option Addr) (n c : Nat) (kn km t2 : ByteArray) (m m1 : Nat) (ta : Int) (w : World) (hs : Strs w a ks) (hd : DocAt w kt t kl (.slice al n c) kn km t2 m m1)
    (hk1 : 1 ≤ ks.length) (hkc : ks.length ≤ cap) (tx : ByteArray) (la : Option Addr) (ln lc : Nat) (e1 : tx = gotT ta t t2 (stOf asker pk ik kt kl kn km ks)) (e2 : la = gotA ta al (stOf asker pk ik kt kl kn km ks)) (e3 : ln = gotN ta n (stOf asker pk ik kt kl kn km ks)) (e4 : lc = gotN ta c (stOf asker pk ik kt kl kn km ks)) :
    Calls Try.prog 9 #[.slice a ks.length cap, .bool asker, .string pk, .agg #[.map (some m)], .agg #[.map (some m)], .string ik, .int .i64 ta] w
      fun e w' => RetV (.tuple #[.string tx, .slice la ln lc]) w e w' := by
  have HR := (show Hid _ from read_letters a ks cap asker pk ik kt t kl al n c kn km t2 m m1 ta w hs hd hk1 hkc tx la ln lc e1 e2 e3 e4)
  clear hs hd hk1 hkc e1 e2 e3 e4
  go_enter Try.func9, Try.ntmps9
  go_wp2_with (go_at_call 12; refine (HR.out _ (below2 _ _ _)).mono ?_; rintro e w1 ⟨rfl, hb⟩)
  go_quiet (fail)
  go_wp2
  go_ret2
  exact ⟨rfl, below_drewN (path_below hb _) _⟩

end Go.Proofs.Qxb6617027a
