/-
  THE MODEL's ARRAYS: zzArray, given zzValue further on.
-/
import Derived.Test.Qxb6616012aGMStr2
import Derived.Test.Qxb6616012aGMNum
import Derived.Test.Qxb6616012aGWord
namespace Go.Proofs.Qxb6616012a.G
open Go.RowKit

/-- What the model says of a value. -/
def Told (r : Except Bool Nat) (e : Ending) : Prop := match r with
  | .ok j => e = .returned (.tuple #[.int .i64 (j : Nat), .bool true, .bool false])
  | .error b => ∃ z, e = .returned (.tuple #[.int .i64 z, .bool false, .bool b])
theorem told_ok (j : Nat) (z : Int) (h : z = (j : Int)) : Told (.ok j) (.returned (.tuple #[.int .i64 z, .bool true, .bool false])) := by subst h; rfl
theorem told_error (b : Bool) (z : Int) : Told (.error b) (.returned (.tuple #[.int .i64 z, .bool false, .bool b])) := ⟨z, rfl⟩

/-- zzValue, at every place behind i. -/
def ValueBehind (g n cap : Nat) (D : Nat → Int) (i : Nat) : Prop :=
  ∀ (q lev : Nat) (w : World), i < q → q ≤ n → lev ≤ 10000 → Dat w g n D → Calls Try.prog 12 #[.slice (some ⟨g, 0, none⟩) n cap, .int .i64 q, .int .i64 lev] w fun e w' => Told (val D n q lev) e ∧ ∃ k, w' = w.drewN k

set_option maxHeartbeats 1000000 in
set_option maxRecDepth 100000 in
theorem zzArray_any (g n cap : Nat) (D : Nat → Int) (i lev : Nat) (w : World) (h : Dat w g n D) (hi : i < n) (hn : n ≤ 1048576) (hl : lev ≤ 10000) (hV : ValueBehind g n cap D i) :
    Calls Try.prog 20 #[.slice (some ⟨g, 0, none⟩) n cap, .int .i64 i, .int .i64 lev] w fun e w' => Told (if 10000 ≤ lev then .error false else start D n 93 (ws D n (i + 1)) lev) e ∧ ∃ k, w' = w.drewN k := by
  have HD : Hid (Dat w g n D) := h
  have HV : Hid (ValueBehind g n cap D i) := hV
  clear h hV
  by_cases hlv : 10000 ≤ lev
  · have b1 : (10000 : Int) ≤ (lev : Int) := by omega
    have E : Hid ((if 10000 ≤ lev then .error false else start D n 93 (ws D n (i + 1)) lev) = (.error false : Except Bool Nat)) := if_pos hlv
    rw [E.out]
    go_enter Try.func20, Try.ntmps20
    go_wp2
    go_ret3
    exact ⟨told_error _ _, 0, rfl⟩
  have b1 : decide ((10000 : Int) ≤ (lev : Int)) = false := by simp; omega
  rw [if_neg hlv]
  obtain ⟨R, hR⟩ : ∃ R, start D n 93 (ws D n (i + 1)) lev = R := ⟨_, rfl⟩
  rw [hR]
  have HR : Hid (start D n 93 (ws D n (i + 1)) lev = R) := hR
  clear hR
  go_enter Try.func20, Try.ntmps20
  go_wp2_with fail
  rw [show (i : Int) + 1 = ((i + 1 : Nat) : Int) by omega]
  refine (zzSkipWS_any g n cap D (i + 1) w HD.out (by omega) hn).mono ?_
  rintro e w1 ⟨rfl, rfl⟩
  have k1 := ws_le D n (i + 1)
  have k2 := ws_n D n (j := i + 1) (by omega)
  revert k1 k2 HR
  generalize ws D n (i + 1) = q0
  intro HR k1 k2
  by_cases hcl : q0 < n ∧ D q0 = 93
  · have E : Hid (R = .ok (q0 + 1)) := HR.out.symm.trans (by unfold start; rw [if_pos hcl])
    have b2 : (q0 : Int) < (n : Int) := by omega
    have d0 := HD.out q0 hcl.1
    rw [hcl.2] at d0
    clear hcl
    go_wp2
    go_ret3
    rw [E.out]
    exact ⟨told_ok _ _ (by omega), 0, rfl⟩
  have E0 : Hid (loop D n 93 q0 lev = R) := by
    have := HR.out
    unfold start at this
    rwa [if_neg hcl] at this
  clear HR
  go_upto_region 4 with fail
  go_cut [30] from 13 (fun v wx => v = .bool false ∧ w = wx)
  case first =>
    by_cases hq : q0 < n
    · have b2 : (q0 : Int) < (n : Int) := by omega
      have d0 := HD.out q0 hq
      have t1 : (D q0 == 93) = false := by rw [beq_eq_false_iff_ne]; exact fun h => hcl ⟨hq, h⟩
      clear hcl
      go_wp2
      go_meet
      case rel => exact ⟨rfl, rfl⟩
    · have b2 : decide ((q0 : Int) < (n : Int)) = false := by simp; omega
      clear hcl
      go_wp2
      go_meet
      case rel => exact ⟨rfl, rfl⟩
  case rest =>
    obtain ⟨rfl, rfl⟩ := hcut
    clear hcl
    go_wp2_with fail
    go_loopw [9] (fun v wr => ∃ q m : Nat, i < q ∧ q ≤ n ∧ v = .int .i64 q ∧ wr = w.drewN m ∧ loop D n 93 q lev = R) (fun v _ => n - (intOf v).toNat)
    case atStart => exact ⟨q0, 0, by omega, k2, rfl, rfl, E0.out⟩
    case round =>
      obtain ⟨q, m, hq0, hq, rfl, rfl, hL⟩ := hrel
      have HL : Hid (loop D n 93 q lev = R) := hL
      clear hL E0 k1 k2
      go_wp2_with fail
      rw [show (lev : Int) + 1 = ((lev + 1 : Nat) : Int) by omega]
      refine (HV.out q (lev + 1) _ hq0 hq (by omega) (HD.out.drewN _)).mono ?_
      rintro e w2 ⟨hT, k, rfl⟩
      have hl2 := HL.out
      rw [loop_eq, show pre D n 93 q = some q by simp [pre]] at hl2
      simp only [] at hl2
      cases hv : val D n q (lev + 1) with
      | error b =>
        rw [hv] at hT hl2
        obtain ⟨z, rfl⟩ := hT
        have E : Hid (R = .error b) := hl2.symm
        clear hl2 hv
        go_wp2
        go_ret3
        rw [E.out]
        exact ⟨told_error _ _, _, rfl⟩
      | ok e1 =>
        rw [hv] at hT hl2
        have hT' : e = .returned (.tuple #[.int .i64 (e1 : Nat), .bool true, .bool false]) := hT
        subst hT'
        have ve := val_n D n hv
        have E : Hid (rest D n 93 (ws D n e1) lev = R) := hl2
        clear hl2 hv hT
        go_wp2_with fail
        refine (zzSkipWS_any g n cap D e1 _ (HD.out.drewN _) ve.2 hn).mono ?_
        rintro e w3 ⟨rfl, rfl⟩
        have k1 := ws_le D n e1
        have k2 := ws_n D n ve.2
        revert E k1 k2
        generalize ws D n e1 = j
        intro E k1 k2
        by_cases hj : j < n
        rotate_left
        · have b2 : decide ((j : Int) < (n : Int)) = false := by simp; omega
          have b3 : (n : Int) ≤ (j : Int) := by omega
          have E2 : Hid (R = .error true) := E.out.symm.trans (by unfold rest; rw [if_neg (fun h => hj h.1), if_neg (fun h => hj h.1)])
          go_wp2
          go_ret3
          rw [E2.out]
          exact ⟨told_error _ _, _, rfl⟩
        have b2 : (j : Int) < (n : Int) := by omega
        have b3 : decide ((n : Int) ≤ (j : Int)) = false := by simp; omega
        have d0 := HD.out j hj
        by_cases h93 : D j = 93
        · have E2 : Hid (R = .ok (j + 1)) := E.out.symm.trans (by unfold rest; rw [if_pos ⟨hj, h93⟩])
          rw [h93] at d0
          clear h93
          go_wp2
          go_ret3
          rw [E2.out]
          exact ⟨told_ok _ _ (by omega), _, rfl⟩
        have t1 : (D j == 93) = false := by rw [beq_eq_false_iff_ne]; exact h93
        by_cases h44 : D j = 44
        rotate_left
        · have t2 : (D j != 44) = true := by rw [bne_iff_ne]; exact h44
          have E2 : Hid (R = .error true) := E.out.symm.trans (by unfold rest; rw [if_neg (fun h => h93 h.2), if_neg (fun h => h44 h.2)])
          clear h93 h44
          go_wp2
          go_ret3
          rw [E2.out]
          exact ⟨told_error _ _, _, rfl⟩
        have E2 : Hid (loop D n 93 (ws D n (j + 1)) lev = R) := by
          have := E.out
          unfold rest at this
          rwa [if_neg (fun h => h93 h.2), if_pos ⟨hj, h44⟩] at this
        rw [h44] at d0 t1
        clear h93 h44 E t1
        go_wp2_with fail
        rw [show (j : Int) + 1 = ((j + 1 : Nat) : Int) by omega]
        refine (zzSkipWS_any g n cap D (j + 1) _ (HD.out.drewN _) (by omega) hn).mono ?_
        rintro e w4 ⟨rfl, rfl⟩
        have k3 := ws_le D n (j + 1)
        have k4 := ws_n D n (j := j + 1) (by omega)
        go_wp2
        go_roundw
        case rel => first | exact ⟨ws D n (j + 1), m + k, by omega, k4, rfl, rfl, E2.out⟩ | ((repeat apply Exists.intro); exact ⟨⟨ws D n (j + 1), m + k, by omega, k4, rfl, rfl, E2.out⟩, rfl⟩)
        case measure => simp [intOf]; omega
end Go.Proofs.Qxb6616012a.G
