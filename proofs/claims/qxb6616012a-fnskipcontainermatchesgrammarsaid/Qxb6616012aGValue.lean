/-
  skipValue AT A VALUE THAT IS NO CONTAINER.
-/
import Derived.Test.Qxb6616012aGNext
import Derived.Test.Qxb6616012aGNum
import Derived.Test.Qxb6616012aGWord
namespace Go.Proofs.Qxb6616012a.G
open Go.RowKit

/-- The end of a value that is no container. -/
def sv (D : Nat → Int) (n p : Nat) : Option Nat := if n ≤ p then none else scal D n p

set_option maxHeartbeats 1000000 in
set_option maxRecDepth 100000 in
theorem skipValue_any (s g n cap : Nat) (D : Nat → Int) (hby : ∀ i, 0 ≤ D i ∧ D i < 256) (dep : Int) (p : Nat) (f : Bool) (w : World) (h : Spl w s g n cap D dep p f) (hp : p ≤ n) (hn : n ≤ 1048576) (ho : p < n → D p ≠ 123 ∧ D p ≠ 91) :
    Calls Try.prog 27 #[.pointer (some ⟨s, 0, none⟩)] w fun e w' => Sp s w w' ∧ ((e = .returned (.bool true) ∧ ∃ j, sv D n p = some j ∧ Spl w' s g n cap D dep j f) ∨ (e = .returned (.bool false) ∧ sv D n p = none ∧ ∃ p', p ≤ p' ∧ p' ≤ n ∧ Spl w' s g n cap D dep p' f)) := by
  obtain ⟨c0, c1, c2, c3, f1, f3⟩ := h.cells
  have HS : Hid (Spl w s g n cap D dep p f) := h
  clear h
  by_cases hlt : p < n
  rotate_left
  · have t0 : ((p : Int) == (n : Int)) = true := by rw [beq_iff_eq]; omega
    have E : Hid (sv D n p = none) := by unfold Hid sv; rw [if_pos (by omega)]
    go_enter Try.func27, Try.ntmps27
    go_wp2
    go_quiet (fail)
    go_wp2
    go_ret
    exact ⟨(Sp.refl _ _).drewN _, Or.inr ⟨rfl, E.out, p, by omega, by omega, HS.out.drewN _⟩⟩
  have t0 : ((p : Int) == (n : Int)) = false := by rw [beq_eq_false_iff_ne]; omega
  have b1 : (p : Int) < (n : Int) := by omega
  have d0 := HS.out.dat p hlt
  obtain ⟨h123, h91⟩ := ho hlt
  clear ho
  have E0 : Hid (sv D n p = scal D n p) := by unfold Hid sv; rw [if_neg (by omega)]
  by_cases e34 : D p = 34
  · have E : Hid (sv D n p = str D n (p + 1)) := E0.out.trans (by unfold scal; rw [if_pos e34])
    rw [e34] at d0
    clear e34 h123 h91
    go_enter Try.func27, Try.ntmps27
    go_wp2
    go_quiet (fail)
    go_wp2
    go_quiet (fail)
    go_wp2_with fail
    refine (skipString_any s g n cap D dep p f _ (HS.out.drewN _) hlt hn).mono ?_
    rintro e w2 ⟨s2, ⟨rfl, j, hj, h2⟩ | ⟨rfl, hj, h2⟩⟩
    · have E2 : Hid (sv D n p = some j) := E.out.trans hj
      clear hj
      go_wp2
      go_ret
      exact ⟨((Sp.refl _ _).drewN _).trans s2, Or.inl ⟨rfl, j, E2.out, h2⟩⟩
    · have E2 : Hid (sv D n p = none) := E.out.trans hj
      clear hj
      go_wp2
      go_ret
      exact ⟨((Sp.refl _ _).drewN _).trans s2, Or.inr ⟨rfl, E2.out, h2⟩⟩
  have x1 : (D p == 34) = false := by rw [beq_eq_false_iff_ne]; exact e34
  have x2 : (D p == 123) = false := by rw [beq_eq_false_iff_ne]; exact h123
  have x3 : (D p == 91) = false := by rw [beq_eq_false_iff_ne]; exact h91
  by_cases e116 : D p = 116
  · have E : Hid (sv D n p = word D n [116, 114, 117, 101] p) := E0.out.trans (by unfold scal; rw [if_neg e34, if_pos e116])
    rw [e116] at d0
    clear e116 e34 h123 h91 x1 x2 x3
    go_enter Try.func27, Try.ntmps27
    go_wp2
    go_quiet (fail)
    go_wp2
    go_quiet (fail)
    go_wp2_with fail
    refine (skipLiteral_any s g n cap D dep p f _ _ word_true hby _ (HS.out.drewN _) hlt hn (by decide)).mono ?_
    rintro e w2 ⟨s2, ⟨rfl, j, hj, h2⟩ | ⟨rfl, hj, h2⟩⟩
    · have E2 : Hid (sv D n p = some j) := E.out.trans hj
      clear hj
      go_wp2
      go_ret
      exact ⟨((Sp.refl _ _).drewN _).trans s2, Or.inl ⟨rfl, j, E2.out, h2⟩⟩
    · have E2 : Hid (sv D n p = none) := E.out.trans hj
      clear hj
      go_wp2
      go_ret
      exact ⟨((Sp.refl _ _).drewN _).trans s2, Or.inr ⟨rfl, E2.out, h2⟩⟩
  have x4 : (D p == 116) = false := by rw [beq_eq_false_iff_ne]; exact e116
  by_cases e102 : D p = 102
  · have E : Hid (sv D n p = word D n [102, 97, 108, 115, 101] p) := E0.out.trans (by unfold scal; rw [if_neg e34, if_neg e116, if_pos e102])
    rw [e102] at d0
    clear e102 e116 e34 h123 h91 x1 x2 x3 x4
    go_enter Try.func27, Try.ntmps27
    go_wp2
    go_quiet (fail)
    go_wp2
    go_quiet (fail)
    go_wp2_with fail
    refine (skipLiteral_any s g n cap D dep p f _ _ word_false hby _ (HS.out.drewN _) hlt hn (by decide)).mono ?_
    rintro e w2 ⟨s2, ⟨rfl, j, hj, h2⟩ | ⟨rfl, hj, h2⟩⟩
    · have E2 : Hid (sv D n p = some j) := E.out.trans hj
      clear hj
      go_wp2
      go_ret
      exact ⟨((Sp.refl _ _).drewN _).trans s2, Or.inl ⟨rfl, j, E2.out, h2⟩⟩
    · have E2 : Hid (sv D n p = none) := E.out.trans hj
      clear hj
      go_wp2
      go_ret
      exact ⟨((Sp.refl _ _).drewN _).trans s2, Or.inr ⟨rfl, E2.out, h2⟩⟩
  have x5 : (D p == 102) = false := by rw [beq_eq_false_iff_ne]; exact e102
  by_cases e110 : D p = 110
  · have E : Hid (sv D n p = word D n [110, 117, 108, 108] p) := E0.out.trans (by unfold scal; rw [if_neg e34, if_neg e116, if_neg e102, if_pos e110])
    rw [e110] at d0
    clear e110 e102 e116 e34 h123 h91 x1 x2 x3 x4 x5
    go_enter Try.func27, Try.ntmps27
    go_wp2
    go_quiet (fail)
    go_wp2
    go_quiet (fail)
    go_wp2_with fail
    refine (skipLiteral_any s g n cap D dep p f _ _ word_null hby _ (HS.out.drewN _) hlt hn (by decide)).mono ?_
    rintro e w2 ⟨s2, ⟨rfl, j, hj, h2⟩ | ⟨rfl, hj, h2⟩⟩
    · have E2 : Hid (sv D n p = some j) := E.out.trans hj
      clear hj
      go_wp2
      go_ret
      exact ⟨((Sp.refl _ _).drewN _).trans s2, Or.inl ⟨rfl, j, E2.out, h2⟩⟩
    · have E2 : Hid (sv D n p = none) := E.out.trans hj
      clear hj
      go_wp2
      go_ret
      exact ⟨((Sp.refl _ _).drewN _).trans s2, Or.inr ⟨rfl, E2.out, h2⟩⟩
  have x6 : (D p == 110) = false := by rw [beq_eq_false_iff_ne]; exact e110
  have E : Hid (sv D n p = num D n p) := E0.out.trans (by unfold scal; rw [if_neg e34, if_neg e116, if_neg e102, if_neg e110])
  clear e110 e102 e116 e34 h123 h91
  go_enter Try.func27, Try.ntmps27
  go_wp2
  go_quiet (fail)
  go_wp2
  go_quiet (fail)
  go_wp2_with fail
  refine (skipNumber_any s g n cap D dep p f _ (HS.out.drewN _) hp hn).mono ?_
  rintro e w2 ⟨s2, ⟨rfl, j, hj, h2⟩ | ⟨rfl, hj, h2⟩⟩
  · have E2 : Hid (sv D n p = some j) := E.out.trans hj
    clear hj
    go_wp2
    go_ret
    exact ⟨((Sp.refl _ _).drewN _).trans s2, Or.inl ⟨rfl, j, E2.out, h2⟩⟩
  · have E2 : Hid (sv D n p = none) := E.out.trans hj
    clear hj
    go_wp2
    go_ret
    exact ⟨((Sp.refl _ _).drewN _).trans s2, Or.inr ⟨rfl, E2.out, h2⟩⟩
end Go.Proofs.Qxb6616012a.G
