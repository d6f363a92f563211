/-
  Seat b6617303a: FnSpacesUnionCommutesAndIsSetUnion at every input.
-/
import Derived.Test.Qxb6617303aCommutes
namespace Go.Proofs.Qxb6617303a
open Go.RowKit

/-- Union where one side is every space. -/
theorem union_all (p q : Bool) (hpq : (p || q) = true) (a : Option Addr) (n c : Nat) (b : Option Addr) (m d : Nat) (w : World) :
    Calls Try.prog 8 #[.agg #[.bool p, .slice a n c], .agg #[.bool q, .slice b m d]] w fun e w' => AllP w e w' := by
  cases p with
  | true => exact union_all_left (.bool q) a n c b m d (by cases q <;> simp) w
  | false =>
    cases q with
    | true => exact union_all_right a n c b m d w
    | false => cases hpq

/-- The two boxed arguments. -/
theorem four_s (w : World) (p q : Bool) (a : Option Addr) (n c : Nat) (b : Option Addr) (m d : Nat) :
    SpAt ((w.alloc (.cells #[.bool p, .slice a n c] 27)).alloc (.cells #[.bool q, .slice b m d] 27)) w.heap.size p a n c ∧ SpAt ((w.alloc (.cells #[.bool p, .slice a n c] 27)).alloc (.cells #[.bool q, .slice b m d] 27)) (w.heap.size + 1) q b m d ∧
    Below w.heap.size w ((w.alloc (.cells #[.bool p, .slice a n c] 27)).alloc (.cells #[.bool q, .slice b m d] 27)) := by
  have e1 : (w.alloc (.cells #[.bool p, .slice a n c] 27)).heap.size = w.heap.size + 1 := by simp
  have t0 := SpAt.made (w.alloc (.cells #[.bool p, .slice a n c] 27)) q b m d
  rw [e1] at t0
  exact ⟨(SpAt.made w p a n c).below ((Below.refl _ _).alloc (Nat.le_refl _) _), t0, Below.new (Below.new (Below.refl w.heap.size w) _) _⟩

set_option maxRecDepth 100000 in
set_option maxHeartbeats 2000000 in
theorem commutes_all (p q : Bool) (hpq : (p || q) = true) (aA : Option Addr) (sA : List ByteArray) (cA : Nat) (aB : Option Addr) (sB : List ByteArray) (cB : Nat) (w : World) (hA : Strs w aA sA) (hB : Strs w aB sB) :
    Calls Try.prog 4 #[.bool p, .slice aA sA.length cA, .bool q, .slice aB sB.length cB] w fun e w' => Yes w e w' := by
  have HA := (show Hid _ from hA)
  have HB := (show Hid _ from hB)
  have HP := (show Hid _ from hpq)
  have HP2 := (show Hid _ from (Bool.or_comm q p).trans hpq)
  clear hA hB
  cases p <;> cases q
  · cases hpq
  all_goals
    clear hpq
    go_enter Try.func4, Try.ntmps4
    go_wp2_with fail
    refine (zzBytes11_any _ aA sA cA _ aB sB cB w HA.out HB.out).mono ?_
    rintro e w' ⟨⟨bb, rfl, hbb⟩, hw⟩
    subst w'
    clear hbb
    cases bb with
    | false =>
      go_wp2
      go_ret
      exact ⟨rfl, Below.refl _ _⟩
    | true =>
      go_wp2_with fail
      refine (tooBig_any aA sA cA aB sB cB w HA.out HB.out).mono ?_
      rintro e w' ⟨⟨bb, rfl, hbb⟩, hw⟩
      subst w'
      clear hbb
      cases bb with
      | true =>
        go_wp2
        go_ret
        exact ⟨rfl, Below.refl _ _⟩
      | false =>
        go_wp2_with fail
        refine (union_all _ _ HP.out aA sA.length cA aB sB.length cB _).mono ?_
        rintro e w1 ⟨rfl, B1⟩
        have s1 := (four_s w _ _ aA sA.length cA aB sB.length cB).1.below B1
        have t1 := (four_s w _ _ aA sA.length cA aB sB.length cB).2.1.below B1
        have b1 := Below.next (four_s w _ _ aA sA.length cA aB sB.length cB).2.2 B1
        have r1 := SpAt.made w1 true none 0 0
        have q0 := s1.c0
        have q1 := s1.c1
        have ql := s1.lt
        have p0 := t1.c0
        have p1 := t1.c1
        have pl := t1.lt
        have HK := (show Hid _ from And.intro b1 r1)
        clear s1 t1 b1 r1 B1
        go_wp2_with fail
        refine (union_all _ _ HP2.out aB sB.length cB aA sA.length cA _).mono ?_
        rintro e w2 ⟨rfl, B2⟩
        have r2 := HK.out.2.below B2
        have b2 := Below.next (Below.new HK.out.1 _) B2
        have y0 := r2.c0
        have y1 := r2.c1
        have yl := r2.lt
        have HM := (show Hid _ from And.intro b2 r2)
        clear HK q0 q1 ql p0 p1 pl B2 r2 b2
        go_wp2_with fail
        refine (sameNames_any none none [] 0 0 _ (Strs.nil _ _) (Strs.nil _ _)).mono ?_
        rintro e w3 ⟨rfl, B3⟩
        have x2 := (Below.refl w2.heap.size w2).alloc (Nat.le_refl _) (.cells #[.bool true, .slice none 0 0] 27)
        have r3 := (HM.out.2.below x2).below B3
        have b3 := Below.next (Below.new HM.out.1 _) B3
        have v0 := r3.c0
        have v1 := r3.c1
        clear HM B3 r3 y0 y1 yl x2
        go_wp2
        go_ret
        exact ⟨rfl, b3⟩

theorem commutes_walk (p : Bool) (aA : Option Addr) (sA : List ByteArray) (cA : Nat) (q : Bool) (aB : Option Addr) (sB : List ByteArray) (cB : Nat) (w : World) (hA : Strs w aA sA) (hB : Strs w aB sB) (nA : aA = none → cA = 0) (nB : aB = none → cB = 0) :
    Calls Try.prog 4 #[.bool p, .slice aA sA.length cA, .bool q, .slice aB sB.length cB] w fun e w' => Yes w e w' := by
  by_cases h : (p || q) = true
  · exact commutes_all p q h aA sA cA aB sB cB w hA hB
  · have hp : p = false := by cases p <;> simp_all
    have hq : q = false := by cases q <;> simp_all
    subst hp; subst hq
    exact commutes_some aA sA cA aB sB cB w hA hB nA nB

end Go.Proofs.Qxb6617303a
