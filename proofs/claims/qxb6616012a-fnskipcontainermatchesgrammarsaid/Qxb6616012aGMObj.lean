/-
  THE MODEL's OBJECTS: zzObject, given zzValue further on.
-/
import Derived.Test.Qxb6616012aGMArr
namespace Go.Proofs.Qxb6616012a.G
open Go.RowKit

set_option maxHeartbeats 1000000 in
set_option maxRecDepth 100000 in
theorem zzObject_any (g n cap : Nat) (D : Nat → Int) (i lev : Nat) (w : World) (h : Dat w g n D) (hi : i < n) (hn : n ≤ 1048576) (hl : lev ≤ 10000) (hV : ValueBehind g n cap D i) :
    Calls Try.prog 19 #[.slice (some ⟨g, 0, none⟩) n cap, .int .i64 i, .int .i64 lev] w fun e w' => Told (if 10000 ≤ lev then .error false else start D n 125 (ws D n (i + 1)) lev) e ∧ ∃ k, w' = w.drewN k := by
  have HD : Hid (Dat w g n D) := h
  have HV : Hid (ValueBehind g n cap D i) := hV
  clear h hV
  by_cases hlv : 10000 ≤ lev
  · have b1 : (10000 : Int) ≤ (lev : Int) := by omega
    have E : Hid ((if 10000 ≤ lev then .error false else start D n 125 (ws D n (i + 1)) lev) = (.error false : Except Bool Nat)) := if_pos hlv
    rw [E.out]
    go_enter Try.func19, Try.ntmps19
    go_wp2
    go_ret3
    exact ⟨told_error _ _, 0, rfl⟩
  have b1 : decide ((10000 : Int) ≤ (lev : Int)) = false := by simp; omega
  rw [if_neg hlv]
  obtain ⟨R, hR⟩ : ∃ R, start D n 125 (ws D n (i + 1)) lev = R := ⟨_, rfl⟩
  rw [hR]
  have HR : Hid (start D n 125 (ws D n (i + 1)) lev = R) := hR
  clear hR
  go_enter Try.func19, Try.ntmps19
  go_wp2_with fail
  rw [show (i : Int) + 1 = ((i + 1 : Nat) : Int) by omega]
  refine (zzSkipWS_any g n cap D (i + 1) w HD.out (by omega) hn).mono ?_
  rintro e w1 ⟨rfl, rfl⟩
  have k1 := ws_le D n (i + 1)
  have k2 := ws_n D n (j := i + 1) (by omega)
  revert k1 k2 HR
  generalize ws D n (i + 1) = q0
  intro HR k1 k2
  by_cases hcl : q0 < n ∧ D q0 = 125
  · have E : Hid (R = .ok (q0 + 1)) := HR.out.symm.trans (by unfold start; rw [if_pos hcl])
    have b2 : (q0 : Int) < (n : Int) := by omega
    have d0 := HD.out q0 hcl.1
    rw [hcl.2] at d0
    clear hcl
    go_wp2
    go_ret3
    rw [E.out]
    exact ⟨told_ok _ _ (by omega), 0, rfl⟩
  have E0 : Hid (loop D n 125 q0 lev = R) := by
    have := HR.out
    unfold start at this
    rwa [if_neg hcl] at this
  clear HR
  go_upto_region 4 with fail
  go_cut [32] from 15 (fun v wx => v = .bool false ∧ w = wx)
  case first =>
    by_cases hq : q0 < n
    · have b2 : (q0 : Int) < (n : Int) := by omega
      have d0 := HD.out q0 hq
      have t1 : (D q0 == 125) = false := by rw [beq_eq_false_iff_ne]; exact fun h => hcl ⟨hq, h⟩
      clear hcl
      go_wp2
      go_meet
      case rel => exact ⟨rfl, rfl⟩
    · have b2 : decide ((q0 : Int) < (n : Int)) = false := by simp; omega
      clear hcl
      go_wp2
      go_meet
      case rel => exact ⟨rfl, rfl⟩
  case rest =>
    obtain ⟨rfl, rfl⟩ := hcut
    clear hcl
    go_wp2_with fail
    go_loopw [9] (fun v wr => ∃ q m : Nat, i < q ∧ q ≤ n ∧ v = .int .i64 q ∧ wr = w.drewN m ∧ loop D n 125 q lev = R) (fun v _ => n - (intOf v).toNat)
    case atStart => exact ⟨q0, 0, by omega, k2, rfl, rfl, E0.out⟩
    case round =>
      obtain ⟨q, m, hq0, hq, rfl, rfl, hL⟩ := hrel
      have HL : Hid (loop D n 125 q lev = R) := hL
      clear hL E0 k1 k2
      by_cases hq2 : q < n
      rotate_left
      · have b2 : (n : Int) ≤ (q : Int) := by omega
        have E : Hid (R = .error true) := HL.out.symm.trans (loop_none D n (by unfold pre; rw [if_pos rfl, if_neg (fun h => hq2 h.1)]))
        go_wp2
        go_ret3
        rw [E.out]
        exact ⟨told_error _ _, _, rfl⟩
      have b2 : decide ((n : Int) ≤ (q : Int)) = false := by simp; omega
      have b2' : (q : Int) < (n : Int) := by omega
      have d0 := HD.out q hq2
      by_cases h34 : D q = 34
      rotate_left
      · have t1 : (D q != 34) = true := by rw [bne_iff_ne]; exact h34
        have E : Hid (R = .error true) := HL.out.symm.trans (loop_none D n (by unfold pre; rw [if_pos rfl, if_neg (fun h => h34 h.2)]))
        clear h34
        go_wp2
        go_ret3
        rw [E.out]
        exact ⟨told_error _ _, _, rfl⟩
      have H34 : Hid (q < n ∧ D q = 34) := ⟨hq2, h34⟩
      rw [h34] at d0
      clear h34
      go_wp2_with fail
      refine (zzString_any g n cap D q _ (HD.out.drewN _) hq2 hn).mono ?_
      rintro e w2 ⟨rfl, z, b, rfl, ⟨rfl, e0, hs, rfl⟩ | ⟨rfl, hs⟩⟩
      rotate_left
      · have E : Hid (R = .error true) := HL.out.symm.trans (loop_none D n (by unfold pre; rw [if_pos rfl, if_pos H34.out, hs]))
        clear hs
        go_wp2
        go_ret3
        rw [E.out]
        exact ⟨told_error _ _, _, rfl⟩
      have hs2 := str_n D n _ _ hs
      have HS : Hid (str D n (q + 1) = some e0) := hs
      clear hs
      go_wp2_with fail
      refine (zzSkipWS_any g n cap D e0 _ (HD.out.drewN _) hs2.2 hn).mono ?_
      rintro e w3 ⟨rfl, rfl⟩
      have k1 := ws_le D n e0
      have k2 := ws_n D n hs2.2
      have HP : Hid (pre D n 125 q = if ws D n e0 < n ∧ D (ws D n e0) = 58 then some (ws D n (ws D n e0 + 1)) else none) := by
        unfold Hid
        conv => lhs; unfold pre
        rw [if_pos rfl, if_pos H34.out, HS.out]
      clear HS H34 d0
      revert HP k1 k2
      generalize ws D n e0 = c
      intro k1 k2 HP
      by_cases hc : c < n
      rotate_left
      · have b3 : (n : Int) ≤ (c : Int) := by omega
        have E : Hid (R = .error true) := HL.out.symm.trans (loop_none D n (HP.out.trans (if_neg (fun h => hc h.1))))
        go_wp2
        go_ret3
        rw [E.out]
        exact ⟨told_error _ _, _, rfl⟩
      have b3 : decide ((n : Int) ≤ (c : Int)) = false := by simp; omega
      have b3' : (c : Int) < (n : Int) := by omega
      have d0 := HD.out c hc
      by_cases h58 : D c = 58
      rotate_left
      · have t1 : (D c != 58) = true := by rw [bne_iff_ne]; exact h58
        have E : Hid (R = .error true) := HL.out.symm.trans (loop_none D n (HP.out.trans (if_neg (fun h => h58 h.2))))
        clear h58
        go_wp2
        go_ret3
        rw [E.out]
        exact ⟨told_error _ _, _, rfl⟩
      have HP2 : Hid (pre D n 125 q = some (ws D n (c + 1))) := HP.out.trans (if_pos ⟨hc, h58⟩)
      rw [h58] at d0
      clear h58 HP
      go_wp2_with fail
      rw [show (c : Int) + 1 = ((c + 1 : Nat) : Int) by omega]
      refine (zzSkipWS_any g n cap D (c + 1) _ (HD.out.drewN _) (by omega) hn).mono ?_
      rintro e w4 ⟨rfl, rfl⟩
      have k3 := ws_le D n (c + 1)
      have k4 := ws_n D n (j := c + 1) (by omega)
      have hl2 := HL.out
      rw [loop_eq, HP2.out] at hl2
      simp only [] at hl2
      revert k3 k4 hl2
      generalize ws D n (c + 1) = x
      intro k3 k4 hl2
      have HL2 : Hid ((match val D n x (lev + 1) with
        | .error b => .error b
        | .ok e => rest D n 125 (ws D n e) lev) = R) := hl2
      clear hl2 HP2 d0
      go_wp2_with fail
      rw [show (lev : Int) + 1 = ((lev + 1 : Nat) : Int) by omega]
      refine (HV.out x (lev + 1) _ (by omega) k4 (by omega) (HD.out.drewN _)).mono ?_
      rintro e w2 ⟨hT, k, rfl⟩
      have hl2 := HL2.out
      cases hv : val D n x (lev + 1) with
      | error b =>
        rw [hv] at hT hl2
        obtain ⟨z, rfl⟩ := hT
        have E : Hid (R = .error b) := hl2.symm
        clear hl2 hv
        go_wp2
        go_ret3
        rw [E.out]
        exact ⟨told_error _ _, _, rfl⟩
      | ok e1 =>
        rw [hv] at hT hl2
        have hT' : e = .returned (.tuple #[.int .i64 (e1 : Nat), .bool true, .bool false]) := hT
        subst hT'
        have ve := val_n D n hv
        have E : Hid (rest D n 125 (ws D n e1) lev = R) := hl2
        clear hl2 hv hT
        go_wp2_with fail
        refine (zzSkipWS_any g n cap D e1 _ (HD.out.drewN _) ve.2 hn).mono ?_
        rintro e w3 ⟨rfl, rfl⟩
        have k5 := ws_le D n e1
        have k6 := ws_n D n ve.2
        revert E k5 k6
        generalize ws D n e1 = j
        intro E k5 k6
        by_cases hj : j < n
        rotate_left
        · have b2 : decide ((j : Int) < (n : Int)) = false := by simp; omega
          have b3 : (n : Int) ≤ (j : Int) := by omega
          have E2 : Hid (R = .error true) := E.out.symm.trans (by unfold rest; rw [if_neg (fun h => hj h.1), if_neg (fun h => hj h.1)])
          go_wp2
          go_ret3
          rw [E2.out]
          exact ⟨told_error _ _, _, rfl⟩
        have b2 : (j : Int) < (n : Int) := by omega
        have b3 : decide ((n : Int) ≤ (j : Int)) = false := by simp; omega
        have d0 := HD.out j hj
        by_cases h125 : D j = 125
        · have E2 : Hid (R = .ok (j + 1)) := E.out.symm.trans (by unfold rest; rw [if_pos ⟨hj, h125⟩])
          rw [h125] at d0
          clear h125
          go_wp2
          go_ret3
          rw [E2.out]
          exact ⟨told_ok _ _ (by omega), _, rfl⟩
        have t1 : (D j == 125) = false := by rw [beq_eq_false_iff_ne]; exact h125
        by_cases h44 : D j = 44
        rotate_left
        · have t2 : (D j != 44) = true := by rw [bne_iff_ne]; exact h44
          have E2 : Hid (R = .error true) := E.out.symm.trans (by unfold rest; rw [if_neg (fun h => h125 h.2), if_neg (fun h => h44 h.2)])
          clear h125 h44
          go_wp2
          go_ret3
          rw [E2.out]
          exact ⟨told_error _ _, _, rfl⟩
        have E2 : Hid (loop D n 125 (ws D n (j + 1)) lev = R) := by
          have := E.out
          unfold rest at this
          rwa [if_neg (fun h => h125 h.2), if_pos ⟨hj, h44⟩] at this
        rw [h44] at d0 t1
        clear h125 h44 E t1
        go_wp2_with fail
        rw [show (j : Int) + 1 = ((j + 1 : Nat) : Int) by omega]
        refine (zzSkipWS_any g n cap D (j + 1) _ (HD.out.drewN _) (by omega) hn).mono ?_
        rintro e w4 ⟨rfl, rfl⟩
        have k7 := ws_le D n (j + 1)
        have k8 := ws_n D n (j := j + 1) (by omega)
        go_wp2
        go_roundw
        case rel => first | exact ⟨ws D n (j + 1), m + k, by omega, k8, rfl, rfl, E2.out⟩ | ((repeat apply Exists.intro); exact ⟨⟨ws D n (j + 1), m + k, by omega, k8, rfl, rfl, E2.out⟩, rfl⟩)
        case measure => simp [intOf]; omega
end Go.Proofs.Qxb6616012a.G
