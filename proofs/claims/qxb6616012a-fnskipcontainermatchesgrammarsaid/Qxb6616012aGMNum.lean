/-
  THE MODEL's NUMBERS: zzNumber.
-/
import Derived.Test.Qxb6616012aGMStr
import Derived.Deep.Cut
namespace Go.Proofs.Qxb6616012a.G
open Go.RowKit

set_option maxHeartbeats 1000000 in
set_option maxRecDepth 100000 in
theorem zzNumber_any (g n cap : Nat) (D : Nat → Int) (p : Nat) (w : World) (h : Dat w g n D) (hp : p ≤ n) (hn : n ≤ 1048576) :
    Calls Try.prog 23 #[.slice (some ⟨g, 0, none⟩) n cap, .int .i64 p] w fun e w' => w = w' ∧ ∃ z b, e = .returned (.tuple #[.int .i64 z, .bool b]) ∧ ((b = true ∧ ∃ j : Nat, num D n p = some j ∧ z = j) ∨ (b = false ∧ num D n p = none)) := by
  have HD : Hid (Dat w g n D) := h
  clear h
  go_enter Try.func23, Try.ntmps23
  go_upto_region 2 with fail
  go_cut [21] from 10 (fun v wx => (v = .bool true ∧ (p < n ∧ D p = 45) ∨ v = .bool false ∧ ¬ (p < n ∧ D p = 45)) ∧ w = wx)
  case first =>
    by_cases hlt : p < n
    · have b1 : (p : Int) < (n : Int) := by omega
      have d0 := HD.out p hlt
      by_cases c0 : D p = 45
      · have EC : Hid (p < n ∧ D p = 45) := ⟨hlt, by omega⟩
        rw [c0] at d0
        clear c0
        go_wp2
        go_meet
        case rel => exact ⟨Or.inl ⟨rfl, EC.out⟩, rfl⟩
      have t0 : (D p == 45) = false := by rw [beq_eq_false_iff_ne]; exact c0
      have EC : Hid (¬ (p < n ∧ D p = 45)) := fun h => by omega
      clear c0
      go_wp2
      go_meet
      case rel => exact ⟨Or.inr ⟨rfl, EC.out⟩, rfl⟩
    · have b1 : decide ((p : Int) < (n : Int)) = false := by simp; omega
      have EC : Hid (¬ (p < n ∧ D p = 45)) := fun h => hlt h.1
      go_wp2
      go_meet
      case rel => exact ⟨Or.inr ⟨rfl, EC.out⟩, rfl⟩
  case rest =>
    obtain ⟨hb, rfl⟩ := hcut
    go_upto_if 21 with fail
    go_cut [6] from 10 (fun v wx => v = .int .i64 (num1 D n p) ∧ w = wx)
    case first =>
      rcases hb with ⟨rfl, hc⟩ | ⟨rfl, hc⟩
      · have E : Hid (num1 D n p = p + 1) := by unfold Hid num1; rw [if_pos hc]
        clear hc
        go_wp2
        go_meet
        case rel => rw [E.out]; exact ⟨by go_num, rfl⟩
      · have E : Hid (num1 D n p = p) := by unfold Hid num1; rw [if_neg hc]
        clear hc
        go_wp2
        go_meet
        case rel => rw [E.out]; exact ⟨rfl, rfl⟩
    case rest =>
      clear hb
      obtain ⟨rfl, rfl⟩ := hcut
      have q1 := num1_n D n hp
      have E1 : Hid (num D n p = match num2 D n (num1 D n p) with
        | none => none
        | some j => match num3 D n j with
          | none => none
          | some k => num4 D n k) := rfl
      revert E1 q1
      generalize num1 D n p = p1
      intro q1 E1
      go_upto_region 4 with fail
      go_cut [34] from 10 (fun v wx => (v = .bool true ∧ (p1 < n ∧ D p1 = 48) ∨ v = .bool false ∧ ¬ (p1 < n ∧ D p1 = 48)) ∧ w = wx)
      case first =>
        by_cases hlt : p1 < n
        · have b1 : (p1 : Int) < (n : Int) := by omega
          have d0 := HD.out p1 hlt
          by_cases c0 : D p1 = 48
          · have EC : Hid (p1 < n ∧ D p1 = 48) := ⟨hlt, by omega⟩
            rw [c0] at d0
            clear c0
            go_wp2
            go_meet
            case rel => exact ⟨Or.inl ⟨rfl, EC.out⟩, rfl⟩
          have t0 : (D p1 == 48) = false := by rw [beq_eq_false_iff_ne]; exact c0
          have EC : Hid (¬ (p1 < n ∧ D p1 = 48)) := fun h => by omega
          clear c0
          go_wp2
          go_meet
          case rel => exact ⟨Or.inr ⟨rfl, EC.out⟩, rfl⟩
        · have b1 : decide ((p1 : Int) < (n : Int)) = false := by simp; omega
          have EC : Hid (¬ (p1 < n ∧ D p1 = 48)) := fun h => hlt h.1
          go_wp2
          go_meet
          case rel => exact ⟨Or.inr ⟨rfl, EC.out⟩, rfl⟩
      case rest =>
        obtain ⟨hb, rfl⟩ := hcut
        go_upto_if 34 with fail
        go_cut [6, 7] from 10 (fun v v7 wx => ∃ p2, v = .int .i64 (p2 : Nat) ∧ p1 < p2 ∧ p2 ≤ n ∧ num2 D n p1 = some p2 ∧ w = wx)
        case first =>
          rcases hb with ⟨rfl, hc⟩ | ⟨rfl, hc⟩
          · have E : Hid (num2 D n p1 = some (p1 + 1)) := by unfold Hid num2; rw [if_pos hc]
            have hlt := hc.1
            clear hc
            go_wp2
            go_meet
            case rel => exact ⟨p1 + 1, by go_num, by omega, by omega, E.out, rfl⟩
          · have HC : Hid (¬ (p1 < n ∧ D p1 = 48)) := hc
            clear hc
            go_wp2_with fail
            refine (zzDigitsEnd_any g n cap D p1 w HD.out q1.2 hn).mono ?_
            rintro e w3 ⟨rfl, rfl⟩
            have k1 := dg_le D n p1
            have k2 := dg_n D n q1.2
            by_cases hz : dg D n p1 = p1
            · have E2 : Hid (num D n p = none) := E1.out.trans (by rw [show num2 D n p1 = none by unfold num2; rw [if_neg HC.out, if_pos hz]])
              have t1 : ((dg D n p1 : Int) == (p1 : Int)) = true := by rw [beq_iff_eq]; omega
              clear hz
              go_wp2
              go_ret2
              exact ⟨rfl, _, _, rfl, Or.inr ⟨rfl, E2.out⟩⟩
            · have E2 : Hid (num2 D n p1 = some (dg D n p1)) := by unfold Hid num2; rw [if_neg HC.out, if_neg hz]
              have t1 : ((dg D n p1 : Int) == (p1 : Int)) = false := by rw [beq_eq_false_iff_ne]; omega
              have hlt : p1 < dg D n p1 := by omega
              clear hz
              go_wp2
              go_meet
              case rel => exact ⟨dg D n p1, rfl, hlt, k2, E2.out, rfl⟩
        case rest =>
          clear hb
          obtain ⟨p2, rfl, q2, q2', e2, rfl⟩ := hcut
          have E2 : Hid (num D n p = match num3 D n p2 with
            | none => none
            | some k => num4 D n k) := E1.out.trans (by rw [e2])
          clear e2 E1
          go_upto_region 10 with fail
          go_cut [55] from 10 (fun v wx => (v = .bool true ∧ (p2 < n ∧ D p2 = 46) ∨ v = .bool false ∧ ¬ (p2 < n ∧ D p2 = 46)) ∧ w = wx)
          case first =>
            by_cases hlt : p2 < n
            · have b1 : (p2 : Int) < (n : Int) := by omega
              have d0 := HD.out p2 hlt
              by_cases c0 : D p2 = 46
              · have EC : Hid (p2 < n ∧ D p2 = 46) := ⟨hlt, by omega⟩
                rw [c0] at d0
                clear c0
                go_wp2
                go_meet
                case rel => exact ⟨Or.inl ⟨rfl, EC.out⟩, rfl⟩
              have t0 : (D p2 == 46) = false := by rw [beq_eq_false_iff_ne]; exact c0
              have EC : Hid (¬ (p2 < n ∧ D p2 = 46)) := fun h => by omega
              clear c0
              go_wp2
              go_meet
              case rel => exact ⟨Or.inr ⟨rfl, EC.out⟩, rfl⟩
            · have b1 : decide ((p2 : Int) < (n : Int)) = false := by simp; omega
              have EC : Hid (¬ (p2 < n ∧ D p2 = 46)) := fun h => hlt h.1
              go_wp2
              go_meet
              case rel => exact ⟨Or.inr ⟨rfl, EC.out⟩, rfl⟩
          case rest =>
            obtain ⟨hb, rfl⟩ := hcut
            go_upto_if 55 with fail
            go_cut [6, 8] from 10 (fun v v8 wx => ∃ p3, v = .int .i64 (p3 : Nat) ∧ p2 ≤ p3 ∧ p3 ≤ n ∧ num3 D n p2 = some p3 ∧ w = wx)
            case first =>
              rcases hb with ⟨rfl, hc⟩ | ⟨rfl, hc⟩
              · have HC : Hid (p2 < n ∧ D p2 = 46) := hc
                have hlt := hc.1
                clear hc
                go_wp2_with fail
                rw [show (p2 : Int) + 1 = ((p2 + 1 : Nat) : Int) by omega]
                refine (zzDigitsEnd_any g n cap D (p2 + 1) w HD.out (by omega) hn).mono ?_
                rintro e w3 ⟨rfl, rfl⟩
                have k1 := dg_le D n (p2 + 1)
                have k2 := dg_n D n (j := p2 + 1) (by omega)
                by_cases hz : dg D n (p2 + 1) = p2 + 1
                · have E3 : Hid (num D n p = none) := E2.out.trans (by rw [show num3 D n p2 = none by unfold num3; rw [if_pos HC.out, if_pos hz]])
                  have t1 : ((dg D n (p2 + 1) : Int) == (p2 : Int) + 1) = true := by rw [beq_iff_eq]; omega
                  clear hz
                  go_wp2
                  go_ret2
                  exact ⟨rfl, _, _, rfl, Or.inr ⟨rfl, E3.out⟩⟩
                · have E3 : Hid (num3 D n p2 = some (dg D n (p2 + 1))) := by unfold Hid num3; rw [if_pos HC.out, if_neg hz]
                  have t1 : ((dg D n (p2 + 1) : Int) == (p2 : Int) + 1) = false := by rw [beq_eq_false_iff_ne]; omega
                  clear hz
                  go_wp2
                  go_meet
                  case rel => exact ⟨dg D n (p2 + 1), rfl, by omega, k2, E3.out, rfl⟩
              · have E3 : Hid (num3 D n p2 = some p2) := by unfold Hid num3; rw [if_neg hc]
                clear hc
                go_wp2
                go_meet
                case rel => exact ⟨p2, rfl, by omega, q2', E3.out, rfl⟩
            case rest =>
              clear hb
              obtain ⟨p3, rfl, q3, q3', e3, rfl⟩ := hcut
              have E3 : Hid (num D n p = num4 D n p3) := E2.out.trans (by rw [e3])
              clear e3 E2
              go_upto_region 15 with fail
              go_cut [83] from 10 (fun v wx => (v = .bool true ∧ (p3 < n ∧ (D p3 = 101 ∨ D p3 = 69)) ∨ v = .bool false ∧ ¬ (p3 < n ∧ (D p3 = 101 ∨ D p3 = 69))) ∧ w = wx)
              case first =>
                by_cases hlt : p3 < n
                · have b1 : (p3 : Int) < (n : Int) := by omega
                  have d0 := HD.out p3 hlt
                  by_cases c0 : D p3 = 101
                  · have EC : Hid (p3 < n ∧ (D p3 = 101 ∨ D p3 = 69)) := ⟨hlt, by omega⟩
                    rw [c0] at d0
                    clear c0
                    go_wp2
                    go_meet
                    case rel => exact ⟨Or.inl ⟨rfl, EC.out⟩, rfl⟩
                  have t0 : (D p3 == 101) = false := by rw [beq_eq_false_iff_ne]; exact c0
                  by_cases c1 : D p3 = 69
                  · have EC : Hid (p3 < n ∧ (D p3 = 101 ∨ D p3 = 69)) := ⟨hlt, by omega⟩
                    rw [c1] at d0
                    clear c1
                    go_wp2
                    go_meet
                    case rel => exact ⟨Or.inl ⟨rfl, EC.out⟩, rfl⟩
                  have t1 : (D p3 == 69) = false := by rw [beq_eq_false_iff_ne]; exact c1
                  have EC : Hid (¬ (p3 < n ∧ (D p3 = 101 ∨ D p3 = 69))) := fun h => by omega
                  clear c0 c1
                  go_wp2
                  go_meet
                  case rel => exact ⟨Or.inr ⟨rfl, EC.out⟩, rfl⟩
                · have b1 : decide ((p3 : Int) < (n : Int)) = false := by simp; omega
                  have EC : Hid (¬ (p3 < n ∧ (D p3 = 101 ∨ D p3 = 69))) := fun h => hlt h.1
                  go_wp2
                  go_meet
                  case rel => exact ⟨Or.inr ⟨rfl, EC.out⟩, rfl⟩
              case rest =>
                obtain ⟨hb, rfl⟩ := hcut
                rcases hb with ⟨rfl, hc⟩ | ⟨rfl, hc⟩
                rotate_left
                · have E4 : Hid (num D n p = some p3) := E3.out.trans (by unfold num4; rw [if_neg hc])
                  clear hc
                  go_wp2
                  go_ret2
                  exact ⟨rfl, _, _, rfl, Or.inl ⟨rfl, p3, E4.out, rfl⟩⟩
                have hlt := hc.1
                have E4 : Hid (num D n p = if dg D n (sgn D n (p3 + 1)) = sgn D n (p3 + 1) then none else some (dg D n (sgn D n (p3 + 1)))) := E3.out.trans (by unfold num4; rw [if_pos hc])
                have q4 : p3 + 1 ≤ n := hlt
                clear hc E3 hlt
                go_upto_region 17 with fail
                rw [show (p3 : Int) + 1 = ((p3 + 1 : Nat) : Int) by omega]
                revert E4 q4
                generalize p3 + 1 = p4
                intro E4 q4
                go_upto_region 17 with fail
                go_cut [103] from 10 (fun v wx => (v = .bool true ∧ (p4 < n ∧ (D p4 = 43 ∨ D p4 = 45)) ∨ v = .bool false ∧ ¬ (p4 < n ∧ (D p4 = 43 ∨ D p4 = 45))) ∧ w = wx)
                case first =>
                  by_cases hlt : p4 < n
                  · have b1 : (p4 : Int) < (n : Int) := by omega
                    have d0 := HD.out p4 hlt
                    by_cases c0 : D p4 = 43
                    · have EC : Hid (p4 < n ∧ (D p4 = 43 ∨ D p4 = 45)) := ⟨hlt, by omega⟩
                      rw [c0] at d0
                      clear c0
                      go_wp2
                      go_meet
                      case rel => exact ⟨Or.inl ⟨rfl, EC.out⟩, rfl⟩
                    have t0 : (D p4 == 43) = false := by rw [beq_eq_false_iff_ne]; exact c0
                    by_cases c1 : D p4 = 45
                    · have EC : Hid (p4 < n ∧ (D p4 = 43 ∨ D p4 = 45)) := ⟨hlt, by omega⟩
                      rw [c1] at d0
                      clear c1
                      go_wp2
                      go_meet
                      case rel => exact ⟨Or.inl ⟨rfl, EC.out⟩, rfl⟩
                    have t1 : (D p4 == 45) = false := by rw [beq_eq_false_iff_ne]; exact c1
                    have EC : Hid (¬ (p4 < n ∧ (D p4 = 43 ∨ D p4 = 45))) := fun h => by omega
                    clear c0 c1
                    go_wp2
                    go_meet
                    case rel => exact ⟨Or.inr ⟨rfl, EC.out⟩, rfl⟩
                  · have b1 : decide ((p4 : Int) < (n : Int)) = false := by simp; omega
                    have EC : Hid (¬ (p4 < n ∧ (D p4 = 43 ∨ D p4 = 45))) := fun h => hlt h.1
                    go_wp2
                    go_meet
                    case rel => exact ⟨Or.inr ⟨rfl, EC.out⟩, rfl⟩
                case rest =>
                  obtain ⟨hb, rfl⟩ := hcut
                  go_upto_if 103 with fail
                  go_cut [6] from 10 (fun v wx => v = .int .i64 (sgn D n p4) ∧ w = wx)
                  case first =>
                    rcases hb with ⟨rfl, hc⟩ | ⟨rfl, hc⟩
                    · have E : Hid (sgn D n p4 = p4 + 1) := by unfold Hid sgn; rw [if_pos hc]
                      clear hc
                      go_wp2
                      go_meet
                      case rel => rw [E.out]; exact ⟨by go_num, rfl⟩
                    · have E : Hid (sgn D n p4 = p4) := by unfold Hid sgn; rw [if_neg hc]
                      clear hc
                      go_wp2
                      go_meet
                      case rel => rw [E.out]; exact ⟨rfl, rfl⟩
                  case rest =>
                    clear hb
                    obtain ⟨rfl, rfl⟩ := hcut
                    have k0 := sgn_n D n q4
                    revert E4 k0
                    generalize sgn D n p4 = p5
                    intro E4 k0
                    go_wp2_with fail
                    refine (zzDigitsEnd_any g n cap D p5 w HD.out k0.2 hn).mono ?_
                    rintro e w3 ⟨rfl, rfl⟩
                    by_cases hz : dg D n p5 = p5
                    · have E5 : Hid (num D n p = none) := E4.out.trans (by rw [if_pos hz])
                      have t1 : ((dg D n p5 : Int) == (p5 : Int)) = true := by rw [beq_iff_eq]; omega
                      clear hz
                      go_wp2
                      go_ret2
                      exact ⟨rfl, _, _, rfl, Or.inr ⟨rfl, E5.out⟩⟩
                    · have E5 : Hid (num D n p = some (dg D n p5)) := E4.out.trans (by rw [if_neg hz])
                      have t1 : ((dg D n p5 : Int) == (p5 : Int)) = false := by rw [beq_eq_false_iff_ne]; omega
                      clear hz
                      go_wp2
                      go_ret2
                      exact ⟨rfl, _, _, rfl, Or.inl ⟨rfl, dg D n p5, E5.out, rfl⟩⟩
end Go.Proofs.Qxb6616012a.G
