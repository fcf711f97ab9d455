/-
  THE SPLITTER's SMALL FUNCTIONS: accepts, takes, fail, nextElement, closing, isHex.
-/
import Derived.Test.Qxb6616012aGBase
namespace Go.Proofs.Qxb6616012a.G
open Go.RowKit

set_option maxHeartbeats 1000000 in
theorem accepts_any (s g n cap : Nat) (D : Nat → Int) (dep : Int) (p : Nat) (f : Bool) (c : Int) (w : World) (h : Spl w s g n cap D dep p f) (hn : n ≤ 1048576) :
    Calls Try.prog 42 #[.pointer (some ⟨s, 0, none⟩), .int .u8 c] w fun e w' => ∃ b p', e = .returned (.bool b) ∧ Spl w' s g n cap D dep p' f ∧ Sp s w w' ∧ ((b = true ∧ (p < n ∧ D p = c) ∧ p' = p + 1) ∨ (b = false ∧ ¬ (p < n ∧ D p = c) ∧ p' = p)) := by
  obtain ⟨c0, c1, c2, c3, f1, f3⟩ := h.cells
  by_cases hlt : p < n
  · have b1 : (p : Int) < (n : Int) := by omega
    have d0 := h.dat p hlt
    have HS : Hid (Spl w s g n cap D dep p f) := h
    clear h
    by_cases hc : D p = c
    · rw [hc] at d0
      go_enter Try.func42, Try.ntmps42
      go_wp2
      go_quiet (fail)
      go_wp2
      go_ret
      exact ⟨true, p + 1, rfl, (HS.out.drewN _).setAt _ _ (by omega), ((Sp.refl _ _).drewN _).setCell _ _, Or.inl ⟨rfl, ⟨hlt, hc⟩, rfl⟩⟩
    · have t1 : (D p == c) = false := by rw [beq_eq_false_iff_ne]; exact hc
      go_enter Try.func42, Try.ntmps42
      go_wp2
      go_quiet (fail)
      go_wp2
      go_ret
      exact ⟨false, p, rfl, HS.out.drewN _, (Sp.refl _ _).drewN _, Or.inr ⟨rfl, fun h => hc h.2, rfl⟩⟩
  · have b1 : decide ((p : Int) < (n : Int)) = false := by simp; omega
    have HS : Hid (Spl w s g n cap D dep p f) := h
    clear h
    go_enter Try.func42, Try.ntmps42
    go_wp2
    go_quiet (fail)
    go_wp2
    go_ret
    exact ⟨false, p, rfl, HS.out.drewN _, (Sp.refl _ _).drewN _, Or.inr ⟨rfl, fun h => hlt h.1, rfl⟩⟩

theorem takes_any (s g n cap : Nat) (D : Nat → Int) (dep : Int) (p : Nat) (f : Bool) (c : Int) (w : World) (h : Spl w s g n cap D dep p f) (hp : p ≤ n) (hn : n ≤ 1048576) :
    Calls Try.prog 39 #[.pointer (some ⟨s, 0, none⟩), .int .u8 c] w fun e w' => ∃ b p', e = .returned (.bool b) ∧ Spl w' s g n cap D dep p' f ∧ Sp s w w' ∧ ((b = true ∧ (ws D n p < n ∧ D (ws D n p) = c) ∧ p' = ws D n p + 1) ∨ (b = false ∧ ¬ (ws D n p < n ∧ D (ws D n p) = c) ∧ p' = ws D n p)) := by
  go_enter Try.func39, Try.ntmps39
  go_wp2_with fail
  refine (skipSpace_any s g n cap D dep p f w h hp hn).mono ?_
  rintro e w1 ⟨rfl, h1, s1⟩
  go_wp2_with fail
  refine (accepts_any s g n cap D dep (ws D n p) f c w1 h1 hn).mono ?_
  rintro e w2 ⟨b, p', rfl, h2, s2, hb⟩
  go_wp2
  go_ret
  exact ⟨b, p', rfl, h2, s1.trans s2, hb⟩

theorem fail_any (s g n cap : Nat) (D : Nat → Int) (dep : Int) (p : Nat) (f : Bool) (w : World) (h : Spl w s g n cap D dep p f) :
    Calls Try.prog 40 #[.pointer (some ⟨s, 0, none⟩)] w fun e w' => e = .returned (.tuple #[.slice none 0 0, .bool false]) ∧ Spl w' s g n cap D dep p true ∧ Sp s w w' := by
  obtain ⟨c0, c1, c2, c3, f1, f3⟩ := h.cells
  have HS : Hid (Spl w s g n cap D dep p f) := h
  clear h
  go_enter Try.func40, Try.ntmps40
  go_wp2
  go_ret2
  exact ⟨rfl, HS.out.setFailed true, (Sp.refl _ _).setCell _ _⟩

set_option maxHeartbeats 1000000 in
theorem nextElement_any (s g n cap : Nat) (D : Nat → Int) (dep : Int) (p : Nat) (i : Nat) (w : World) (h : Spl w s g n cap D dep p false) (hp : p ≤ n) (hn : n ≤ 1048576) :
    Calls Try.prog 33 #[.pointer (some ⟨s, 0, none⟩), .int .i64 i] w fun e w' => Sp s w w' ∧
      ((e = .returned (.bool false) ∧ (ws D n p < n ∧ D (ws D n p) = 93) ∧ Spl w' s g n cap D dep (ws D n p + 1) false) ∨
       (¬ (ws D n p < n ∧ D (ws D n p) = 93) ∧ e = .returned (.bool false) ∧ cont D n (decide (i = 0)) (ws D n p) = none ∧ ∃ p', p ≤ p' ∧ p' ≤ n ∧ Spl w' s g n cap D dep p' true) ∨
       (¬ (ws D n p < n ∧ D (ws D n p) = 93) ∧ e = .returned (.bool true) ∧ ∃ p', p ≤ p' ∧ p' ≤ n ∧ Spl w' s g n cap D dep p' false ∧ cont D n (decide (i = 0)) (ws D n p) = some (ws D n p'))) := by
  have hw1 := ws_le D n p
  have hw2 := ws_n D n hp
  go_enter Try.func33, Try.ntmps33
  go_wp2_with fail
  refine (takes_any s g n cap D dep p false 93 w h hp hn).mono ?_
  rintro e w1 ⟨b, p', rfl, h1, s1, hb⟩
  rcases hb with ⟨rfl, hb, rfl⟩ | ⟨rfl, hb, rfl⟩
  · go_wp2
    go_ret
    exact ⟨s1, Or.inl ⟨rfl, hb, h1⟩⟩
  have HB : Hid (¬ (ws D n p < n ∧ D (ws D n p) = 93)) := hb
  clear hb
  by_cases hi : i = 0
  · have b1 : decide ((0 : Int) < (i : Int)) = false := by simp; omega
    go_wp2
    go_ret
    exact ⟨s1, Or.inr (Or.inr ⟨HB.out, rfl, ws D n p, hw1, hw2, h1, by simp [cont, ws_ws, hi]⟩)⟩
  · have b1 : (0 : Int) < (i : Int) := by omega
    go_wp2_with fail
    refine (takes_any s g n cap D dep (ws D n p) false 44 w1 h1 hw2 hn).mono ?_
    rintro e w2 ⟨b, p', rfl, h2, s2, hb⟩
    rw [ws_ws] at hb
    rcases hb with ⟨rfl, hb, rfl⟩ | ⟨rfl, hb, rfl⟩
    · go_wp2
      go_ret
      exact ⟨s1.trans s2, Or.inr (Or.inr ⟨HB.out, rfl, ws D n p + 1, by omega, by omega, h2, by simp [cont, hi, hb]⟩)⟩
    · obtain ⟨c0, c1, c2, c3, f1, f3⟩ := h2.cells
      have H2 : Hid (Spl w2 s g n cap D dep (ws D n p) false) := h2
      have HC : Hid (¬ (ws D n p < n ∧ D (ws D n p) = 44)) := hb
      clear h2 hb
      go_wp2
      go_ret
      exact ⟨(s1.trans s2).setCell _ _, Or.inr (Or.inl ⟨HB.out, rfl, by simp [cont, hi]; exact fun a b => HC.out ⟨a, b⟩, ws D n p, hw1, hw2, H2.out.setFailed true⟩)⟩

theorem closing_any (c : Int) (w : World) : Calls Try.prog 24 #[.int .u8 c] w fun e w' => e = .returned (.int .u8 (closer c)) ∧ w = w' := by
  by_cases hc : c = 123
  · subst hc
    go_enter Try.func24, Try.ntmps24
    go_wp2
    go_ret
    exact ⟨rfl, rfl⟩
  · have t1 : (c == 123) = false := by rw [beq_eq_false_iff_ne]; exact hc
    have hcl : closer c = 93 := by simp [closer, hc]
    rw [hcl]
    clear hcl
    go_enter Try.func24, Try.ntmps24
    go_wp2
    go_ret
    exact ⟨rfl, rfl⟩
end Go.Proofs.Qxb6616012a.G
