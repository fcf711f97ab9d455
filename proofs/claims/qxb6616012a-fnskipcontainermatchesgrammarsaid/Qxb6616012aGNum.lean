/-
  THE SPLITTER's NUMBERS: skipDigits, skipNumber.
-/
import Derived.Test.Qxb6616012aGLeaf
import Derived.Deep.Cut
namespace Go.Proofs.Qxb6616012a.G
open Go.RowKit

set_option maxHeartbeats 1000000 in
theorem skipDigits_any (s g n cap : Nat) (D : Nat → Int) (dep : Int) (p : Nat) (f : Bool) (w : World) (h : Spl w s g n cap D dep p f) (hp : p ≤ n) (hn : n ≤ 1048576) :
    Calls Try.prog 43 #[.pointer (some ⟨s, 0, none⟩)] w fun e w' => e = .returned (.int .i64 ((dg D n p : Int) - (p : Int))) ∧ Spl w' s g n cap D dep (dg D n p) f ∧ Sp s w w' := by
  obtain ⟨c0, c1, c2, c3, f1, f3⟩ := h.cells
  have HS0 : Hid (Spl w s g n cap D dep p f) := h
  clear h
  go_enter Try.func43, Try.ntmps43
  go_wp2_with fail
  clear c0 c1 c2 c3 f1 f3
  go_loopw [] (fun wr => ∃ q : Nat, p ≤ q ∧ q ≤ n ∧ dg D n q = dg D n p ∧ Spl wr s g n cap D dep q f ∧ Sp s w wr) (fun wr => n - atOf s wr)
  case atStart => exact ⟨p, Nat.le_refl _, hp, rfl, HS0.out, Sp.refl _ _⟩
  case round =>
    obtain ⟨q, hq0, hq, hw, hS, hsp⟩ := hrel
    obtain ⟨c0, c1, c2, c3, f1, f3⟩ := hS.cells
    have HS : Hid (Spl wr s g n cap D dep q f) := hS
    have HQ : Hid (dg D n q = dg D n p) := hw
    clear hS hw
    by_cases hlt : q < n
    · have b1 : (q : Int) < (n : Int) := by omega
      have d0 := HS.out.dat q hlt
      by_cases h1 : 48 ≤ D q
      · by_cases h2 : D q ≤ 57
        · have hE : Hid (dg D n (q + 1) = dg D n p) := (dg_go D n hlt (by simp [isDg, h1, h2])).symm.trans HQ.out
          go_wp2
          go_quiet (fail)
          go_wp2
          go_roundw
          case rel => exact ⟨q + 1, by omega, by omega, hE.out, (HS.out.drewN _).setAt _ _ (by omega), (hsp.drewN _).setCell _ _⟩
          case measure => rw [((HS.out.drewN _).setAt _ (q + 1) (by omega)).at, HS.out.at]; omega
        · have t2 : decide (D q ≤ 57) = false := by simp; omega
          have hE : Hid (dg D n p = q) := HQ.out.symm.trans (dg_stop D n (fun h => by simp [isDg] at h; omega))
          clear h2
          go_wp2
          go_quiet (fail)
          go_wp2
          go_ret
          rw [hE.out]
          exact ⟨rfl, HS.out.drewN _, hsp.drewN _⟩
      · have t1 : decide (48 ≤ D q) = false := by simp; omega
        have hE : Hid (dg D n p = q) := HQ.out.symm.trans (dg_stop D n (fun h => by simp [isDg] at h; omega))
        clear h1
        go_wp2
        go_quiet (fail)
        go_wp2
        go_ret
        rw [hE.out]
        exact ⟨rfl, HS.out.drewN _, hsp.drewN _⟩
    · have b1 : decide ((q : Int) < (n : Int)) = false := by simp; omega
      have hE : Hid (dg D n p = q) := HQ.out.symm.trans (dg_stop D n (fun h => hlt h.1))
      go_wp2
      go_quiet (fail)
      go_wp2
      go_ret
      rw [hE.out]
      exact ⟨rfl, HS.out.drewN _, hsp.drewN _⟩

/-- The place behind a region: the number goes on at p', or it is none. -/
def Going (w : World) (s g n cap : Nat) (D : Nat → Int) (dep : Int) (f : Bool) (p : Nat) (o : Option Nat) (wx : World) (b : Bool) : Prop :=
  ∃ p', p ≤ p' ∧ p' ≤ n ∧ Spl wx s g n cap D dep p' f ∧ Sp s w wx ∧ ((b = false ∧ o = some p') ∨ (b = true ∧ o = none))

set_option maxHeartbeats 1000000 in
theorem skipNumber_any (s g n cap : Nat) (D : Nat → Int) (dep : Int) (p : Nat) (f : Bool) (w : World) (h : Spl w s g n cap D dep p f) (hp : p ≤ n) (hn : n ≤ 1048576) :
    Calls Try.prog 37 #[.pointer (some ⟨s, 0, none⟩)] w fun e w' => Sp s w w' ∧ ((e = .returned (.bool true) ∧ ∃ j, num D n p = some j ∧ Spl w' s g n cap D dep j f) ∨ (e = .returned (.bool false) ∧ num D n p = none ∧ ∃ p', p ≤ p' ∧ p' ≤ n ∧ Spl w' s g n cap D dep p' f)) := by
  go_enter Try.func37, Try.ntmps37
  go_wp2_with fail
  refine (accepts_any s g n cap D dep p f 45 w h hn).mono ?_
  rintro e w1 ⟨b1, p1, rfl, h1, s1, hb1⟩
  have e1 : num1 D n p = p1 := by
    unfold num1
    rcases hb1 with ⟨_, h, rfl⟩ | ⟨_, h, rfl⟩
    · rw [if_pos h]
    · rw [if_neg h]
  have q1 := num1_n D n hp
  rw [e1] at q1
  have E1 : Hid (num1 D n p = p1) := e1
  clear hb1 e1 h
  go_upto_region 2 with fail
  go_cut [12] from 3 (fun v wx => ∃ b, v = .bool b ∧ Going w s g n cap D dep f p1 (num2 D n p1) wx b)
  case first =>
    go_wp2_with fail
    refine (accepts_any s g n cap D dep p1 f 48 w1 h1 hn).mono ?_
    rintro e w2 ⟨b2, p2, rfl, h2, s2, hb2⟩
    rcases hb2 with ⟨rfl, hc, hp2⟩ | ⟨rfl, hc, hp2⟩
    all_goals
      rw [hp2] at h2
      clear hp2
    · go_wp2
      go_meet
      case rel => exact ⟨false, rfl, p1 + 1, by omega, by omega, h2, s1.trans s2, Or.inl ⟨rfl, by unfold num2; rw [if_pos hc]⟩⟩
    · have HC : Hid (¬ (p1 < n ∧ D p1 = 48)) := hc
      clear hc
      go_wp2_with fail
      refine (skipDigits_any s g n cap D dep p1 f w2 h2 (by omega) hn).mono ?_
      rintro e w3 ⟨rfl, h3, s3⟩
      have k1 := dg_le D n p1
      have k2 := dg_n D n q1.2
      by_cases hz : dg D n p1 = p1
      · have E2 : Hid (num2 D n p1 = none) := by unfold Hid num2; rw [if_neg HC.out, if_pos hz]
        rw [hz] at h3 ⊢
        clear hz k1 k2
        go_wp2
        go_meet
        case rel => exact ⟨true, rfl, p1, by omega, by omega, h3, (s1.trans s2).trans s3, Or.inr ⟨rfl, E2.out⟩⟩
      · have E2 : Hid (num2 D n p1 = some (dg D n p1)) := by unfold Hid num2; rw [if_neg HC.out, if_neg hz]
        have t1 : ((dg D n p1 : Int) - (p1 : Int) == 0) = false := by rw [beq_eq_false_iff_ne]; omega
        clear hz
        go_wp2
        go_meet
        case rel => exact ⟨false, rfl, dg D n p1, by omega, by omega, h3, (s1.trans s2).trans s3, Or.inl ⟨rfl, E2.out⟩⟩
  case rest =>
    obtain ⟨b, rfl, p2, q2, q2', h2, s2, ⟨rfl, e2⟩ | ⟨rfl, e2⟩⟩ := hcut
    rotate_left
    · have E2 : Hid (num D n p = none) := by unfold Hid num; rw [E1.out, e2]
      clear e2
      go_wp2
      go_ret
      exact ⟨s2, Or.inr ⟨rfl, E2.out, p2, by omega, by omega, h2⟩⟩
    clear h1 s1
    have E2 : Hid (num2 D n p1 = some p2) := e2
    clear e2
    go_upto_region 4 with fail
    go_cut [19] from 3 (fun v wx => ∃ b, v = .bool b ∧ Going w s g n cap D dep f p2 (num3 D n p2) wx b)
    case first =>
      go_wp2_with fail
      refine (accepts_any s g n cap D dep p2 f 46 _ h2 hn).mono ?_
      rintro e w3 ⟨b3, p3, rfl, h3, s3, hb3⟩
      rcases hb3 with ⟨rfl, hc, hp3⟩ | ⟨rfl, hc, hp3⟩
      all_goals
        rw [hp3] at h3
        clear hp3
      · have HC : Hid (p2 < n ∧ D p2 = 46) := hc
        have hlt := hc.1
        clear hc
        go_wp2_with fail
        refine (skipDigits_any s g n cap D dep (p2 + 1) f w3 h3 (by omega) hn).mono ?_
        rintro e w4 ⟨rfl, h4, s4⟩
        have k1 := dg_le D n (p2 + 1)
        have k2 := dg_n D n (j := p2 + 1) (by omega)
        by_cases hz : dg D n (p2 + 1) = p2 + 1
        · have E3 : Hid (num3 D n p2 = none) := by unfold Hid num3; rw [if_pos HC.out, if_pos hz]
          have t1 : ((dg D n (p2 + 1) : Int) - ((p2 : Int) + 1) == 0) = true := by rw [beq_iff_eq]; omega
          clear hz
          go_wp2
          go_meet
          case rel => exact ⟨true, rfl, dg D n (p2 + 1), by omega, by omega, h4, (s2.trans s3).trans s4, Or.inr ⟨rfl, E3.out⟩⟩
        · have E3 : Hid (num3 D n p2 = some (dg D n (p2 + 1))) := by unfold Hid num3; rw [if_pos HC.out, if_neg hz]
          have t1 : ((dg D n (p2 + 1) : Int) - ((p2 : Int) + 1) == 0) = false := by rw [beq_eq_false_iff_ne]; omega
          clear hz
          go_wp2
          go_meet
          case rel => exact ⟨false, rfl, dg D n (p2 + 1), by omega, by omega, h4, (s2.trans s3).trans s4, Or.inl ⟨rfl, E3.out⟩⟩
      · have E3 : Hid (num3 D n p2 = some p2) := by unfold Hid num3; rw [if_neg hc]
        clear hc
        go_wp2
        go_meet
        case rel => exact ⟨false, rfl, p2, by omega, by omega, h3, s2.trans s3, Or.inl ⟨rfl, E3.out⟩⟩
    case rest =>
      clear h2 s2
      obtain ⟨b, rfl, p3, q3, q3', h3, s3, ⟨rfl, e3⟩ | ⟨rfl, e3⟩⟩ := hcut
      rotate_left
      · have E3 : Hid (num D n p = none) := by unfold Hid num; rw [E1.out, E2.out]; simp only []; rw [e3]
        clear e3
        go_wp2
        go_ret
        exact ⟨s3, Or.inr ⟨rfl, E3.out, p3, by omega, by omega, h3⟩⟩
      have E3 : Hid (num D n p = num4 D n p3) := by unfold Hid num; rw [E1.out, E2.out]; simp only []; rw [e3]
      clear e3 E2 E1
      go_upto_region 6 with fail
      go_cut [25] from 3 (fun v wx => ∃ b p', v = .bool b ∧ Spl wx s g n cap D dep p' f ∧ Sp s w wx ∧ ((b = true ∧ (p3 < n ∧ (D p3 = 101 ∨ D p3 = 69)) ∧ p' = p3 + 1) ∨ (b = false ∧ ¬ (p3 < n ∧ (D p3 = 101 ∨ D p3 = 69)) ∧ p' = p3)))
      case first =>
        go_wp2_with fail
        refine (accepts_any s g n cap D dep p3 f 101 _ h3 hn).mono ?_
        rintro e w4 ⟨b4, p4, rfl, h4, s4, hb4⟩
        rcases hb4 with ⟨rfl, hc, hp4⟩ | ⟨rfl, hc, hp4⟩
        all_goals
          rw [hp4] at h4
          clear hp4
        · have HC : Hid (p3 < n ∧ (D p3 = 101 ∨ D p3 = 69)) := ⟨hc.1, Or.inl hc.2⟩
          clear hc
          go_wp2
          go_meet
          case rel => exact ⟨true, p3 + 1, rfl, h4, s3.trans s4, Or.inl ⟨rfl, HC.out, rfl⟩⟩
        · have HC : Hid (¬ (p3 < n ∧ D p3 = 101)) := hc
          clear hc
          go_wp2_with fail
          refine (accepts_any s g n cap D dep p3 f 69 _ h4 hn).mono ?_
          rintro e w5 ⟨b5, p5, rfl, h5, s5, hb5⟩
          rcases hb5 with ⟨rfl, hc, hp5⟩ | ⟨rfl, hc, hp5⟩
          all_goals
            rw [hp5] at h5
            clear hp5
          · have HC' : Hid (p3 < n ∧ (D p3 = 101 ∨ D p3 = 69)) := ⟨hc.1, Or.inr hc.2⟩
            clear hc
            go_wp2
            go_meet
            case rel => exact ⟨true, p3 + 1, rfl, h5, (s3.trans s4).trans s5, Or.inl ⟨rfl, HC'.out, rfl⟩⟩
          · have HC' : Hid (¬ (p3 < n ∧ (D p3 = 101 ∨ D p3 = 69))) := fun h => h.2.elim (fun a => HC.out ⟨h.1, a⟩) (fun a => hc ⟨h.1, a⟩)
            clear hc
            go_wp2
            go_meet
            case rel => exact ⟨false, p3, rfl, h5, (s3.trans s4).trans s5, Or.inr ⟨rfl, HC'.out, rfl⟩⟩
      case rest =>
        clear h3 s3
        obtain ⟨b, p4, rfl, h4, s4, ⟨rfl, e4, hp4⟩ | ⟨rfl, e4, hp4⟩⟩ := hcut
        rotate_left
        · have E4 : Hid (num D n p = some p3) := E3.out.trans (by unfold num4; rw [if_neg e4])
          rw [hp4] at h4
          clear e4 hp4
          go_wp2
          go_ret
          exact ⟨s4, Or.inl ⟨rfl, p3, E4.out, h4⟩⟩
        have q4 : p4 ≤ n := by omega
        have q4' : p3 < p4 := by omega
        have E4 : Hid (num D n p = if dg D n (sgn D n p4) = sgn D n p4 then none else some (dg D n (sgn D n p4))) := E3.out.trans (by unfold num4; rw [if_pos e4, hp4])
        clear e4 hp4 E3
        have k0 := sgn_n D n q4
        go_wp2_with fail
        refine (accepts_any s g n cap D dep p4 f 43 _ h4 hn).mono ?_
        rintro e w5 ⟨b5, p5, rfl, h5, s5, hb5⟩
        go_upto_if 28 with fail
        go_cut [] from 3 (fun wx => Spl wx s g n cap D dep (sgn D n p4) f ∧ Sp s w wx)
        case first =>
          rcases hb5 with ⟨rfl, hc, hp5⟩ | ⟨rfl, hc, hp5⟩
          all_goals
            rw [hp5] at h5
            clear hp5
          · have E5 : Hid (sgn D n p4 = p4 + 1) := by unfold Hid sgn; rw [if_pos ⟨hc.1, Or.inl hc.2⟩]
            clear hc
            go_wp2
            go_meet
            case rel => rw [E5.out]; exact ⟨h5, s4.trans s5⟩
          · have HC : Hid (¬ (p4 < n ∧ D p4 = 43)) := hc
            clear hc
            go_wp2_with fail
            refine (accepts_any s g n cap D dep p4 f 45 _ h5 hn).mono ?_
            rintro e w6 ⟨b6, p6, rfl, h6, s6, hb6⟩
            have E6 : Hid (sgn D n p4 = p6) := by
              unfold Hid sgn
              rcases hb6 with ⟨_, hc, hp6⟩ | ⟨_, hc, hp6⟩
              · rw [if_pos ⟨hc.1, Or.inr hc.2⟩, hp6]
              · rw [if_neg (fun h => h.2.elim (fun a => HC.out ⟨h.1, a⟩) (fun a => hc ⟨h.1, a⟩)), hp6]
            clear hb6
            go_wp2
            go_meet
            case rel => rw [E6.out]; exact ⟨h6, (s4.trans s5).trans s6⟩
        case rest =>
          clear h4 s4 h5 s5
          obtain ⟨h6, s6⟩ := hcut
          go_wp2_with fail
          refine (skipDigits_any s g n cap D dep (sgn D n p4) f _ h6 k0.2 hn).mono ?_
          rintro e w7 ⟨rfl, h7, s7⟩
          have k1 := dg_le D n (sgn D n p4)
          have k2 := dg_n D n k0.2
          by_cases hz : dg D n (sgn D n p4) = sgn D n p4
          · have E5 : Hid (num D n p = none) := E4.out.trans (by rw [if_pos hz])
            have t1 : ((dg D n (sgn D n p4) : Int) - (sgn D n p4 : Int) == 0) = true := by rw [beq_iff_eq]; omega
            clear hz
            go_wp2
            go_ret
            exact ⟨s6.trans s7, Or.inr ⟨rfl, E5.out, dg D n (sgn D n p4), by omega, by omega, h7⟩⟩
          · have E5 : Hid (num D n p = some (dg D n (sgn D n p4))) := E4.out.trans (by rw [if_neg hz])
            have t1 : ((dg D n (sgn D n p4) : Int) - (sgn D n p4 : Int) == 0) = false := by rw [beq_eq_false_iff_ne]; omega
            clear hz
            go_wp2
            go_ret
            exact ⟨s6.trans s7, Or.inl ⟨rfl, dg D n (sgn D n p4), E5.out, h7⟩⟩
end Go.Proofs.Qxb6616012a.G
