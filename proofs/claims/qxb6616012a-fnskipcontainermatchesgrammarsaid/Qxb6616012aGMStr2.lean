/-
  THE MODEL's STRINGS: zzString.
-/
import Derived.Test.Qxb6616012aGMStr
namespace Go.Proofs.Qxb6616012a.G
open Go.RowKit

set_option maxHeartbeats 1000000 in
set_option maxRecDepth 100000 in
theorem zzString_any (g n cap : Nat) (D : Nat → Int) (p : Nat) (w : World) (h : Dat w g n D) (hp : p < n) (hn : n ≤ 1048576) :
    Calls Try.prog 21 #[.slice (some ⟨g, 0, none⟩) n cap, .int .i64 p] w fun e w' => w = w' ∧ ∃ z b, e = .returned (.tuple #[.int .i64 z, .bool b]) ∧ ((b = true ∧ ∃ j : Nat, str D n (p + 1) = some j ∧ z = j) ∨ (b = false ∧ str D n (p + 1) = none)) := by
  have HD : Hid (Dat w g n D) := h
  clear h
  go_enter Try.func21, Try.ntmps21
  go_wp2_with fail
  go_loopw [6] (fun i wr => ∃ q : Nat, q ≤ n ∧ i = .int .i64 q ∧ wr = w ∧ str D n q = str D n (p + 1)) (fun i _ => n - (intOf i).toNat)
  case atStart => exact ⟨p + 1, by omega, by go_num, rfl, rfl⟩
  case round =>
    obtain ⟨q, hq, rfl, rfl, hw⟩ := hrel
    have HQ : Hid (str D n q = str D n (p + 1)) := hw
    clear hw
    by_cases hlt : q < n
    · have b1 : (q : Int) < (n : Int) := by omega
      have d0 := HD.out q hlt
      by_cases e34 : D q = 34
      · have hE : Hid (str D n (p + 1) = some (q + 1)) := HQ.out.symm.trans (str_quote D n hlt e34)
        rw [e34] at d0
        clear e34
        go_wp2
        go_ret2
        exact ⟨rfl, _, _, rfl, Or.inl ⟨rfl, q + 1, hE.out, by omega⟩⟩
      have t1 : (D q == 34) = false := by rw [beq_eq_false_iff_ne]; exact e34
      by_cases e32 : D q < 32
      · have hE : Hid (str D n (p + 1) = none) := HQ.out.symm.trans (str_low D n hlt e32)
        clear e34
        go_wp2
        go_ret2
        exact ⟨rfl, _, _, rfl, Or.inr ⟨rfl, hE.out⟩⟩
      have t2 : decide (D q < 32) = false := by simp; omega
      by_cases e92 : D q = 92
      rotate_left
      · have t3 : (D q != 92) = true := by rw [bne_iff_ne]; exact e92
        have hE : Hid (str D n (q + 1) = str D n (p + 1)) := (str_plain D n hlt e34 e32 e92).symm.trans HQ.out
        clear e34 e92 e32
        go_wp2
        go_roundw
        case rel => exact ⟨q + 1, by omega, by go_num, by first | rfl | trivial, hE.out⟩
        case measure => simp [intOf]; omega
      have E92 : Hid (D q = 92) := e92
      rw [e92] at d0
      clear e92 e34 e32 t1 t2
      by_cases h1 : q + 1 < n
      rotate_left
      · have hE : Hid (str D n (p + 1) = none) := HQ.out.symm.trans (str_esc_no D n hlt E92.out (by unfold escAt; rw [if_pos (by omega)]))
        have t3 : (n : Int) ≤ (q : Int) + 1 := by omega
        go_wp2
        go_ret2
        exact ⟨rfl, _, _, rfl, Or.inr ⟨rfl, hE.out⟩⟩
      have d1 := HD.out (q + 1) h1
      have t3 : decide ((n : Int) ≤ (q : Int) + 1) = false := by simp; omega
      have t4 : (q : Int) + 1 < (n : Int) := by omega
      cases hx : isEsc (D (q + 1))
      rotate_left
      · have hE : Hid (str D n (q + 2) = str D n (p + 1)) := (str_esc D n hlt E92.out (by unfold escAt; rw [if_neg (by omega), if_pos hx])).symm.trans HQ.out
        go_wp2_with fail
        refine (zzEscapeChar_any (D (q + 1)) _).mono ?_
        rintro e w2 ⟨rfl, rfl⟩
        go_wp2
        go_roundw
        case rel => exact ⟨q + 2, by omega, by go_num, by first | rfl | trivial, hE.out⟩
        case measure => simp [intOf]; omega
      go_wp2_with fail
      refine (zzEscapeChar_any (D (q + 1)) _).mono ?_
      rintro e w2 ⟨rfl, rfl⟩
      by_cases hu : D (q + 1) = 117
      rotate_left
      · have hE : Hid (str D n (p + 1) = none) := HQ.out.symm.trans (str_esc_no D n hlt E92.out (by unfold escAt; rw [if_neg (by omega), if_neg (by rw [hx]; simp), if_pos (Or.inl hu)]))
        have t5 : (D (q + 1) != 117) = true := by rw [bne_iff_ne]; exact hu
        clear hu
        go_wp2
        go_ret2
        exact ⟨rfl, _, _, rfl, Or.inr ⟨rfl, hE.out⟩⟩
      by_cases h5 : q + 5 < n
      rotate_left
      · have hE : Hid (str D n (p + 1) = none) := HQ.out.symm.trans (str_esc_no D n hlt E92.out (by unfold escAt; rw [if_neg (by omega), if_neg (by rw [hx]; simp), if_pos (Or.inr (by omega))]))
        rw [hu] at d1 ⊢
        rw [hu] at hx
        have t5 : (n : Int) ≤ (q : Int) + 5 := by omega
        clear hu
        go_wp2
        go_ret2
        exact ⟨rfl, _, _, rfl, Or.inr ⟨rfl, hE.out⟩⟩
      have hE4 : Hid (hex4 D (q + 2) = true → str D n (q + 6) = str D n (p + 1)) := fun h4 => (str_esc D n hlt E92.out (by unfold escAt; rw [if_neg (by omega), if_neg (by rw [hx]; simp), if_neg (by omega), if_pos h4])).symm.trans HQ.out
      have hE0 : Hid (hex4 D (q + 2) = false → str D n (p + 1) = none) := fun h4 => HQ.out.symm.trans (str_esc_no D n hlt E92.out (by unfold escAt; rw [if_neg (by omega), if_neg (by rw [hx]; simp), if_neg (by omega), if_neg (by rw [h4]; simp)]))
      rw [hu] at d1 ⊢
      rw [hu] at hx
      clear hu
      have t5 : decide ((n : Int) ≤ (q : Int) + 5) = false := by simp; omega
      go_wp2_with fail
      go_loopw [8] (fun i wr' => ∃ k : Nat, k ≤ 4 ∧ i = .int .i64 ((q : Int) + 2 + k) ∧ wr' = wr ∧ ∀ k', k' < k → isHx (D (q + 2 + k')) = true) (fun i _ => q + 6 - (intOf i).toNat)
      case atStart => exact ⟨0, by omega, by go_num, by first | rfl | trivial, fun k' hk => by omega⟩
      case round =>
        obtain ⟨k, hk, rfl, rfl, hall⟩ := hrel
        have HA : Hid (∀ k', k' < k → isHx (D (q + 2 + k')) = true) := hall
        clear hall
        by_cases hk4 : k < 4
        · have d2 := HD.out (q + 2 + k) (by omega)
          have b8 : (q : Int) + 2 + (k : Int) ≤ (q : Int) + 5 := by omega
          have b9 : (q : Int) + 2 + (k : Int) < (n : Int) := by omega
          go_wp2_with fail
          refine (zzHex_any (D (q + 2 + k)) _).mono ?_
          rintro e w2 ⟨rfl, rfl⟩
          cases hy : isHx (D (q + 2 + k))
          · have hE : Hid (str D n (p + 1) = none) := hE0.out (by rcases (show k = 0 ∨ k = 1 ∨ k = 2 ∨ k = 3 by omega) with rfl | rfl | rfl | rfl <;> simp [hex4] at hy ⊢ <;> simp [hy])
            go_wp2
            go_ret2
            exact ⟨rfl, _, _, rfl, Or.inr ⟨rfl, hE.out⟩⟩
          · have hall : ∀ k', k' < k + 1 → isHx (D (q + 2 + k')) = true := fun k' hk' => by
              by_cases he : k' = k
              · rw [he]; exact hy
              · exact HA.out k' (by omega)
            have HA' : Hid (∀ k', k' < k + 1 → isHx (D (q + 2 + k')) = true) := hall
            clear hall
            go_wp2
            go_roundw
            case rel => first | exact ⟨k + 1, by omega, by go_num, by first | rfl | trivial, HA'.out⟩ | ((repeat apply Exists.intro); exact ⟨⟨k + 1, by omega, by go_num, by first | rfl | trivial, HA'.out⟩, rfl⟩)
            case measure => simp [intOf]; omega
        · have b8 : decide ((q : Int) + 2 + (k : Int) ≤ (q : Int) + 5) = false := by simp; omega
          have hE : Hid (str D n (q + 6) = str D n (p + 1)) := hE4.out (by
            have a0 := HA.out 0 (by omega)
            have a1 := HA.out 1 (by omega)
            have a2 := HA.out 2 (by omega)
            have a3 := HA.out 3 (by omega)
            simp only [Nat.add_zero] at a0
            simp [hex4, a0, a1, a2, a3])
          go_wp2
          go_roundw
          case rel => exact ⟨q + 6, by omega, by go_num, by first | rfl | trivial, hE.out⟩
          case measure => simp [intOf]; omega
    · have b1 : decide ((q : Int) < (n : Int)) = false := by simp; omega
      have hE : Hid (str D n (p + 1) = none) := HQ.out.symm.trans (str_out D n (by omega))
      go_wp2
      go_ret2
      exact ⟨rfl, _, _, rfl, Or.inr ⟨rfl, hE.out⟩⟩
end Go.Proofs.Qxb6616012a.G
