/-
  THE MODEL's SMALL FUNCTIONS: zzSpace, zzSkipWS, zzDigitsEnd, zzHex, zzEscapeChar, zzString.
-/
import Derived.Test.Qxb6616012aGStr
namespace Go.Proofs.Qxb6616012a.G
open Go.RowKit

/-- The data alone. -/
def Dat (w : World) (g n : Nat) (D : Nat → Int) : Prop := ∀ i, i < n → w.cell? ⟨g, i, none⟩ = some (.int .u8 (D i))
theorem Dat.drewN {w : World} {g n : Nat} {D : Nat → Int} (h : Dat w g n D) (k : Nat) : Dat (w.drewN k) g n D := h

set_option maxHeartbeats 1000000 in
theorem zzSpace_any (c : Int) (w : World) : Calls Try.prog 38 #[.int .u8 c] w fun e w' => e = .returned (.bool (isWs c)) ∧ w = w' := by
  by_cases h1 : c = 32
  · subst h1
    go_enter Try.func38, Try.ntmps38
    go_wp2
    go_ret
    exact ⟨rfl, rfl⟩
  by_cases h2 : c = 9
  · subst h2
    go_enter Try.func38, Try.ntmps38
    go_wp2
    go_ret
    exact ⟨rfl, rfl⟩
  by_cases h3 : c = 10
  · subst h3
    go_enter Try.func38, Try.ntmps38
    go_wp2
    go_ret
    exact ⟨rfl, rfl⟩
  have t1 : (c == 32) = false := by rw [beq_eq_false_iff_ne]; exact h1
  have t2 : (c == 9) = false := by rw [beq_eq_false_iff_ne]; exact h2
  have t3 : (c == 10) = false := by rw [beq_eq_false_iff_ne]; exact h3
  have hW : isWs c = (c == 13) := by simp [isWs, t1, t2, t3]
  rw [hW]
  clear h1 h2 h3 hW
  go_enter Try.func38, Try.ntmps38
  go_wp2
  go_ret
  exact ⟨rfl, rfl⟩

set_option maxHeartbeats 1000000 in
theorem zzSkipWS_any (g n cap : Nat) (D : Nat → Int) (p : Nat) (w : World) (h : Dat w g n D) (hp : p ≤ n) (hn : n ≤ 1048576) :
    Calls Try.prog 28 #[.slice (some ⟨g, 0, none⟩) n cap, .int .i64 p] w fun e w' => e = .returned (.int .i64 (ws D n p)) ∧ w = w' := by
  have HD : Hid (Dat w g n D) := h
  clear h
  go_enter Try.func28, Try.ntmps28
  go_wp2_with fail
  go_loopw [1] (fun i wr => ∃ q : Nat, q ≤ n ∧ i = .int .i64 q ∧ wr = w ∧ ws D n q = ws D n p) (fun i _ => n - (intOf i).toNat)
  case atStart => exact ⟨p, hp, rfl, rfl, rfl⟩
  case round =>
    obtain ⟨q, hq, rfl, rfl, hw⟩ := hrel
    have HQ : Hid (ws D n q = ws D n p) := hw
    clear hw
    by_cases hlt : q < n
    · have b1 : (q : Int) < (n : Int) := by omega
      have d0 := HD.out q hlt
      go_wp2_with fail
      refine (zzSpace_any (D q) _).mono ?_
      rintro e w2 ⟨rfl, rfl⟩
      cases hx : isWs (D q)
      · have hE : Hid (ws D n p = q) := HQ.out.symm.trans (ws_stop D n (fun h => by rw [hx] at h; exact absurd h.2 (by simp)))
        go_wp2
        go_ret
        rw [hE.out]
        exact ⟨rfl, rfl⟩
      · have hE : Hid (ws D n (q + 1) = ws D n p) := (ws_go D n hlt hx).symm.trans HQ.out
        go_wp2
        go_roundw
        case rel => exact ⟨q + 1, by omega, by go_num, by first | rfl | trivial, hE.out⟩
        case measure => simp [intOf]; omega
    · have b1 : decide ((q : Int) < (n : Int)) = false := by simp; omega
      have hE : Hid (ws D n p = q) := HQ.out.symm.trans (ws_stop D n (fun h => hlt h.1))
      go_wp2
      go_ret
      rw [hE.out]
      exact ⟨rfl, rfl⟩

set_option maxHeartbeats 1000000 in
theorem zzDigitsEnd_any (g n cap : Nat) (D : Nat → Int) (p : Nat) (w : World) (h : Dat w g n D) (hp : p ≤ n) (hn : n ≤ 1048576) :
    Calls Try.prog 31 #[.slice (some ⟨g, 0, none⟩) n cap, .int .i64 p] w fun e w' => e = .returned (.int .i64 (dg D n p)) ∧ w = w' := by
  have HD : Hid (Dat w g n D) := h
  clear h
  go_enter Try.func31, Try.ntmps31
  go_wp2_with fail
  go_loopw [1] (fun i wr => ∃ q : Nat, q ≤ n ∧ i = .int .i64 q ∧ wr = w ∧ dg D n q = dg D n p) (fun i _ => n - (intOf i).toNat)
  case atStart => exact ⟨p, hp, rfl, rfl, rfl⟩
  case round =>
    obtain ⟨q, hq, rfl, rfl, hw⟩ := hrel
    have HQ : Hid (dg D n q = dg D n p) := hw
    clear hw
    by_cases hlt : q < n
    · have b1 : (q : Int) < (n : Int) := by omega
      have d0 := HD.out q hlt
      by_cases h1 : 48 ≤ D q
      · by_cases h2 : D q ≤ 57
        · have hE : Hid (dg D n (q + 1) = dg D n p) := (dg_go D n hlt (by simp [isDg, h1, h2])).symm.trans HQ.out
          go_wp2
          go_roundw
          case rel => exact ⟨q + 1, by omega, by go_num, by first | rfl | trivial, hE.out⟩
          case measure => simp [intOf]; omega
        · have t2 : decide (D q ≤ 57) = false := by simp; omega
          have hE : Hid (dg D n p = q) := HQ.out.symm.trans (dg_stop D n (fun h => by simp [isDg] at h; omega))
          clear h2
          go_wp2
          go_ret
          rw [hE.out]
          exact ⟨rfl, rfl⟩
      · have t1 : decide (48 ≤ D q) = false := by simp; omega
        have hE : Hid (dg D n p = q) := HQ.out.symm.trans (dg_stop D n (fun h => by simp [isDg] at h; omega))
        clear h1
        go_wp2
        go_ret
        rw [hE.out]
        exact ⟨rfl, rfl⟩
    · have b1 : decide ((q : Int) < (n : Int)) = false := by simp; omega
      have hE : Hid (dg D n p = q) := HQ.out.symm.trans (dg_stop D n (fun h => hlt h.1))
      go_wp2
      go_ret
      rw [hE.out]
      exact ⟨rfl, rfl⟩

set_option maxHeartbeats 1000000 in
theorem zzHex_any (c : Int) (w : World) : Calls Try.prog 30 #[.int .u8 c] w fun e w' => e = .returned (.bool (isHx c)) ∧ w = w' := by
  rcases hx_ranges c with ⟨hx, h | h | h | h⟩ | ⟨hx, h | h | h⟩
  all_goals
    rw [hx]
    clear hx
    first | obtain ⟨h1, h2⟩ := h | skip
    go_enter Try.func30, Try.ntmps30
    go_wp2
    go_ret
    refine ⟨?_, rfl⟩
    first | rfl | (simp; omega)

set_option maxHeartbeats 1000000 in
theorem zzEscapeChar_any (c : Int) (w : World) : Calls Try.prog 29 #[.int .u8 c] w fun e w' => e = .returned (.bool (isEsc c)) ∧ w = w' := by
  by_cases hc : isEsc c = true
  · rw [hc]
    simp only [isEsc, Bool.or_eq_true, beq_iff_eq] at hc
    rcases hc with ((((((hc | hc) | hc) | hc) | hc) | hc) | hc) | hc <;> subst hc
    all_goals
      go_enter Try.func29, Try.ntmps29
      go_wp2
      go_ret
      exact ⟨rfl, rfl⟩
  · have hd : ∀ x, x = 34 ∨ x = 92 ∨ x = 47 ∨ x = 98 ∨ x = 102 ∨ x = 110 ∨ x = 114 ∨ x = 116 → (c == x) = false := fun x hx => by
      simp only [isEsc, Bool.or_eq_true, beq_iff_eq] at hc
      rw [beq_eq_false_iff_ne]
      omega
    have t1 := hd 34 (by simp)
    have t2 := hd 92 (by simp)
    have t3 := hd 47 (by simp)
    have t4 := hd 98 (by simp)
    have t5 := hd 102 (by simp)
    have t6 := hd 110 (by simp)
    have t7 := hd 114 (by simp)
    have t8 := hd 116 (by simp)
    rw [Bool.eq_false_iff.2 hc]
    clear hd hc
    go_enter Try.func29, Try.ntmps29
    go_wp2
    go_ret
    exact ⟨rfl, rfl⟩
end Go.Proofs.Qxb6616012a.G
