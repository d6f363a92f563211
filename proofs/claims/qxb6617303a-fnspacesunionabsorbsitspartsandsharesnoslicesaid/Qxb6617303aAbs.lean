/-
  Seat b6617303a: Union at every input in one contract; a clone whose room is told; a slice that may be written.
-/
import Derived.Test.Qxb6617303aDistinct
namespace Go.Proofs.Qxb6617303a
open Go.RowKit

/-- What Union lists, with the answer 'all' told. -/
def uni (o : Bool) (xs ys : List ByteArray) : List ByteArray := if o = true then [] else unionR xs ys

theorem uni_absorb (o : Bool) (xs ys zs : List ByteArray) (h : ∀ s, s ∈ zs → s ∈ xs ++ ys) : uni o (uni o xs ys) zs = uni o xs ys := by
  cases o with
  | true => rfl
  | false => exact unionR_absorb xs ys zs (fun s hs => (mem_unionR xs ys s).2 (h s hs))
theorem uni_self (o : Bool) (xs ys : List ByteArray) : uni o (uni o xs ys) (uni o xs ys) = uni o xs ys := by
  cases o with
  | true => rfl
  | false => exact unionR_absorb xs ys _ (fun s hs => hs)
theorem uni_length (o : Bool) (xs ys : List ByteArray) : (uni o xs ys).length ≤ xs.length + ys.length := by
  cases o with
  | true => exact Nat.zero_le _
  | false => exact unionR_length_le xs ys

def UniP (o : Bool) (xs ys : List ByteArray) (w : World) (e : Ending) (w' : World) : Prop :=
  ∃ zs a c, Hid (zs = uni o xs ys) ∧ e = .returned (.agg #[.bool o, .slice a zs.length c]) ∧ Own w.heap.size w' a c zs ∧ Below w.heap.size w w'

theorem union_any (p q o : Bool) (ho : (p || q) = o) (a : Option Addr) (xs : List ByteArray) (c : Nat) (b : Option Addr) (ys : List ByteArray) (d : Nat) (w : World) (hx : Strs w a xs) (hy : Strs w b ys) (hac : a = none → c = 0) (hbd : b = none → d = 0) (hlx : xs.length ≤ 262144) (hly : ys.length ≤ 262144) :
    Calls Try.prog 8 #[.agg #[.bool p, .slice a xs.length c], .agg #[.bool q, .slice b ys.length d]] w fun e w' => UniP o xs ys w e w' := by
  cases o with
  | true =>
    refine (union_all p q ho a xs.length c b ys.length d w).mono ?_
    rintro e w' ⟨rfl, hb⟩
    exact ⟨[], none, 0, (rfl : ([] : List ByteArray) = uni true xs ys), rfl, ⟨⟨Nat.zero_le _, fun k hk => by simp at hk⟩, fun _ => rfl, fun k hk => by simp at hk⟩, hb⟩
  | false =>
    have hp : p = false := by cases p <;> simp_all
    have hq : q = false := by cases q <;> simp_all
    subst hp; subst hq
    exact (union_some a xs c b ys d w hx hy hac hbd hlx hly).mono fun e w' h => h

def CloneQ (ss : List ByteArray) (w : World) (e : Ending) (w' : World) : Prop :=
  ∃ a' c', e = .returned (.slice a' ss.length c') ∧ (a' = none → c' = 0) ∧ Strs w' a' ss ∧ Below w.heap.size w w'

set_option maxHeartbeats 400000 in
theorem cloneQ_nil (cap : Nat) (w : World) : Calls Try.prog 7 #[.slice none 0 cap] w fun e w' => CloneQ [] w e w' := by
  have he := fun w => Lib.run_eql_slice_nil (P := Try.prog) w 22 9 none 0 cap 0 0 Try.underlying22
  go_enter Try.func7, Try.ntmps7
  go_wp2
  go_ret
  exact ⟨none, 0, rfl, fun _ => rfl, ⟨Nat.zero_le _, fun k hk => by simp at hk⟩, Below.refl _ _⟩

theorem cloneQ_any (a : Option Addr) (ss : List ByteArray) (cap : Nat) (w : World) (hs : Strs w a ss) (hle : ss.length ≤ 1048576) :
    Calls Try.prog 7 #[.slice a ss.length cap] w fun e w' => CloneQ ss w e w' := by
  cases a with
  | some x =>
    refine (cloneStrings_some x ss cap w hs hle).mono ?_
    rintro e w' ⟨a', c', rfl, hn, _, hs', hb⟩
    exact ⟨a', c', rfl, (fun h => by cases hn.1 h), hs', hb⟩
  | none =>
    cases ss with
    | nil => exact cloneQ_nil cap w
    | cons s r =>
      obtain ⟨_, _, h, _⟩ := hs.2 0 (by simp)
      cases h

/-- A slice of n cells that may be written, in a block from 'base' on that is not g. -/
def Wr (base g : Nat) (w : World) (a : Option Addr) (n : Nat) : Prop :=
  ∀ j, j < n → ∃ b off, a = some ⟨b, off, none⟩ ∧ base ≤ b ∧ b ≠ g ∧ (∃ u, w.cell? ⟨b, off + j, none⟩ = some u) ∧ w.frozen? ⟨b, off + j, none⟩ = false

theorem frozen_below {w w' : World} {p : Addr} (hb : Below w.heap.size w w') (h : p.block < w.heap.size) : w'.frozen? p = w.frozen? p := by
  simp [World.frozen?, hb.block p.block h]

theorem Wr.below {base g n : Nat} {w w' : World} {a : Option Addr} (h : Wr base g w a n) (hb : Below w.heap.size w w') : Wr base g w' a n := by
  intro j hj
  obtain ⟨b, off, ha, h1, h2, ⟨u, hu⟩, hf⟩ := h j hj
  have hlt : b < w.heap.size := World.block_lt_of_cell? _ _ hu
  exact ⟨b, off, ha, h1, h2, ⟨u, (hb.cell (p := ⟨b, off + j, none⟩) hlt).trans hu⟩, (frozen_below (p := ⟨b, off + j, none⟩) hb hlt).trans hf⟩

theorem Own.wr {base : Nat} {w : World} {a : Option Addr} {c : Nat} {zs : List ByteArray} (h : Own base w a c zs) : Wr base w.heap.size w a zs.length := by
  intro j hj
  obtain ⟨b, off, ha, hlt, hc, _⟩ := h.1.2 j hj
  obtain ⟨b', off', ha', h1, h2⟩ := h.2.2 j hj
  rw [ha] at ha'
  cases ha'
  exact ⟨b, off, ha, h1, by omega, ⟨_, hc⟩, h2⟩

end Go.Proofs.Qxb6617303a
