/-
  THE SPLITTER's STRINGS: isHex, skipEscape, skipString.
-/
import Derived.Test.Qxb6616012aGLeaf
namespace Go.Proofs.Qxb6616012a.G
open Go.RowKit

theorem hx_ranges (c : Int) : (isHx c = false ∧ (c < 48 ∨ (57 < c ∧ c < 65) ∨ (70 < c ∧ c < 97) ∨ 102 < c)) ∨ (isHx c = true ∧ ((48 ≤ c ∧ c ≤ 57) ∨ (65 ≤ c ∧ c ≤ 70) ∨ (97 ≤ c ∧ c ≤ 102))) := by
  cases h : isHx c
  · left
    refine ⟨rfl, ?_⟩
    simp [isHx, isDg] at h
    omega
  · right
    refine ⟨rfl, ?_⟩
    simp [isHx, isDg] at h
    omega

set_option maxHeartbeats 1000000 in
theorem isHex_any (c : Int) (w : World) : Calls Try.prog 44 #[.int .u8 c] w fun e w' => e = .returned (.bool (isHx c)) ∧ w = w' := by
  rcases hx_ranges c with ⟨hx, h | h | h | h⟩ | ⟨hx, h | h | h⟩
  all_goals
    rw [hx]
    clear hx
    first | obtain ⟨h1, h2⟩ := h | skip
    go_enter Try.func44, Try.ntmps44
    go_wp2
    go_ret
    refine ⟨?_, rfl⟩
    first | rfl | (simp; omega)

set_option maxHeartbeats 1000000 in
set_option maxRecDepth 100000 in
theorem skipEscape_any (s g n cap : Nat) (D : Nat → Int) (dep : Int) (p : Nat) (f : Bool) (w : World) (h : Spl w s g n cap D dep p f) (hp : p < n) (hn : n ≤ 1048576) :
    Calls Try.prog 41 #[.pointer (some ⟨s, 0, none⟩)] w fun e w' => Sp s w w' ∧ ((e = .returned (.bool true) ∧ ∃ j, escAt D n p = some (j + 1) ∧ Spl w' s g n cap D dep j f) ∨ (e = .returned (.bool false) ∧ escAt D n p = none ∧ ∃ p', p ≤ p' ∧ p' ≤ n ∧ Spl w' s g n cap D dep p' f)) := by
  obtain ⟨c0, c1, c2, c3, f1, f3⟩ := h.cells
  have h1 := h.setAt ((p : Int) + 1) (p + 1) (by omega)
  have s1 : Sp s w (w.setCell ⟨s, 1, none⟩ (.int .i64 ((p : Int) + 1))) := (Sp.refl _ _).setCell _ _
  have hle := h.le
  clear h
  go_enter Try.func41, Try.ntmps41
  go_wp2_with fail
  clear c0 c1 c2 c3 f1 f3
  generalize w.setCell ⟨s, 1, none⟩ (.int .i64 ((p : Int) + 1)) = w1 at *
  obtain ⟨c0, c1, c2, c3, f1, f3⟩ := h1.cells
  have H1 : Hid (Spl w1 s g n cap D dep (p + 1) f) := h1
  clear h1
  by_cases hlt : p + 1 < n
  · have b0 : ((p : Int) + 1 == (n : Int)) = false := by rw [beq_eq_false_iff_ne]; omega
    have b1 : ((p + 1 : Nat) : Int) < (n : Int) := by omega
    have d0 := H1.out.dat (p + 1) hlt
    by_cases he : isEsc (D (p + 1)) = true
    · have hE : Hid (escAt D n p = some (p + 1 + 1)) := by simp [Hid, escAt, he]; omega
      simp only [isEsc, Bool.or_eq_true, beq_iff_eq] at he
      rcases he with ((((((he | he) | he) | he) | he) | he) | he) | he <;> rw [he] at d0 <;> clear he
      all_goals
        go_quiet (fail)
        go_wp2
        go_quiet (fail)
        go_wp2
        go_ret
        exact ⟨s1.drewN _, Or.inl ⟨rfl, p + 1, hE.out, H1.out.drewN _⟩⟩
    · have hd : ∀ x, x = 34 ∨ x = 92 ∨ x = 47 ∨ x = 98 ∨ x = 102 ∨ x = 110 ∨ x = 114 ∨ x = 116 → (D (p + 1) == x) = false := fun x hx => by
        simp only [isEsc, Bool.or_eq_true, beq_iff_eq] at he
        rw [beq_eq_false_iff_ne]
        omega
      by_cases hu : D (p + 1) = 117
      · rw [hu] at d0
        by_cases h5 : p + 5 < n
        · have b5 : decide ((n : Int) - ((p : Int) + 1) ≤ 4) = false := by simp; omega
          have b6 : (p : Int) + 1 + 1 ≤ (p : Int) + 1 + 5 := by omega
          have b7 : (p : Int) + 1 + 5 ≤ (cap : Int) := by omega
          go_quiet (fail)
          go_wp2
          go_quiet (fail)
          go_wp2
          go_quiet (fail)
          go_wp2
          go_quiet (fail)
          go_wp2
          have hE4 : Hid (hex4 D (p + 2) = true → escAt D n p = some (p + 1 + 4 + 1)) := fun h4 => by simp [escAt, hu, show isEsc 117 = false from rfl, h4]; omega
          have hE0 : Hid (hex4 D (p + 2) = false → escAt D n p = none) := fun h4 => by simp [escAt, hu, show isEsc 117 = false from rfl, h4]
          clear hd he hu c0 c1 c2 c3 f1 f3 d0
          rw [show p + 1 + 5 - (p + 1 + 1) = 4 by omega]
          go_loopw [70] (fun i wr => ∃ k : Nat, k ≤ 4 ∧ i = .int .i64 k ∧ Spl wr s g n cap D dep (p + 1) f ∧ Sp s w wr ∧ ∀ k', k' < k → isHx (D (p + 1 + 1 + k')) = true) (fun i _ => 4 - (intOf i).toNat)
          case atStart => exact ⟨0, by omega, rfl, by repeat first | exact H1.out | apply Spl.drewN, by repeat first | exact s1 | apply Sp.drewN, fun k' hk => by omega⟩
          case round =>
            obtain ⟨k, hk, rfl, hS, hsp, hall⟩ := hrel
            have HA : Hid (∀ k', k' < k → isHx (D (p + 1 + 1 + k')) = true) := hall
            clear hall
            by_cases hk4 : k < 4
            · have d1 := hS.dat (p + 1 + 1 + k) (by omega)
              have b8 : (k : Int) < 4 := by omega
              have HS : Hid (Spl wr s g n cap D dep (p + 1) f) := hS
              clear hS
              go_wp2_with fail
              refine (isHex_any (D (p + 1 + 1 + k)) _).mono ?_
              rintro e w2 ⟨rfl, rfl⟩
              cases hx : isHx (D (p + 1 + 1 + k))
              · go_wp2
                go_ret
                refine ⟨hsp, Or.inr ⟨rfl, hE0.out ?_, p + 1, by omega, by omega, HS.out⟩⟩
                rcases (show k = 0 ∨ k = 1 ∨ k = 2 ∨ k = 3 by omega) with rfl | rfl | rfl | rfl <;> simp [hex4, show p + 1 + 1 = p + 2 from rfl] at hx ⊢ <;> simp [hx]
              · go_wp2
                go_roundw
                case rel =>
                  have hall : ∀ k', k' < k + 1 → isHx (D (p + 1 + 1 + k')) = true := fun k' hk' => by
                    by_cases he : k' = k
                    · rw [he]; exact hx
                    · exact HA.out k' (by omega)
                  first | exact ⟨k + 1, by omega, by go_num, HS.out, hsp, hall⟩ | ((repeat apply Exists.intro); exact ⟨⟨k + 1, by omega, by go_num, HS.out, hsp, hall⟩, rfl⟩)
                case measure => simp [intOf]; omega
            · obtain ⟨c0, c1, c2, c3, f1, f3⟩ := hS.cells
              have HS : Hid (Spl wr s g n cap D dep (p + 1) f) := hS
              clear hS
              go_wp2
              go_ret
              have h4 : k = 4 := by omega
              subst h4
              refine ⟨hsp.setCell _ _, Or.inl ⟨rfl, p + 1 + 4, hE4.out ?_, HS.out.setAt _ _ (by omega)⟩⟩
              have a0 := HA.out 0 (by omega)
              have a1 := HA.out 1 (by omega)
              have a2 := HA.out 2 (by omega)
              have a3 := HA.out 3 (by omega)
              simp only [show p + 1 + 1 = p + 2 from rfl] at a0 a1 a2 a3
              simp [hex4, a0, a1, a2, a3]
        · have b5 : (n : Int) - ((p : Int) + 1) ≤ 4 := by omega
          have hE : Hid (escAt D n p = none) := by simp [Hid, escAt, hu, show isEsc 117 = false from rfl]; omega
          clear hd he hu
          go_quiet (fail)
          go_wp2
          go_quiet (fail)
          go_wp2
          go_quiet (fail)
          go_wp2
          go_ret
          exact ⟨by repeat first | exact s1 | apply Sp.drewN, Or.inr ⟨rfl, hE.out, p + 1, by omega, by omega, by repeat first | exact H1.out | apply Spl.drewN⟩⟩
      · have hE : Hid (escAt D n p = none) := by simp [Hid, escAt, he, hu]
        have t1 := hd 34 (by simp)
        have t2 := hd 92 (by simp)
        have t3 := hd 47 (by simp)
        have t4 := hd 98 (by simp)
        have t5 := hd 102 (by simp)
        have t6 := hd 110 (by simp)
        have t7 := hd 114 (by simp)
        have t8 := hd 116 (by simp)
        have t9 : (D (p + 1) == 117) = false := by rw [beq_eq_false_iff_ne]; exact hu
        clear hd he hu
        go_quiet (fail)
        go_wp2
        go_quiet (fail)
        go_wp2
        go_ret
        exact ⟨s1.drewN _, Or.inr ⟨rfl, hE.out, p + 1, by omega, by omega, H1.out.drewN _⟩⟩
  · have b0 : ((p : Int) + 1 == (n : Int)) = true := by rw [beq_iff_eq]; omega
    have hE : Hid (escAt D n p = none) := by simp [Hid, escAt]; omega
    go_quiet (fail)
    go_wp2
    go_ret
    exact ⟨s1.drewN _, Or.inr ⟨rfl, hE.out, p + 1, by omega, by omega, H1.out.drewN _⟩⟩

set_option maxHeartbeats 1000000 in
set_option maxRecDepth 100000 in
theorem skipString_any (s g n cap : Nat) (D : Nat → Int) (dep : Int) (p : Nat) (f : Bool) (w : World) (h : Spl w s g n cap D dep p f) (hp : p < n) (hn : n ≤ 1048576) :
    Calls Try.prog 35 #[.pointer (some ⟨s, 0, none⟩)] w fun e w' => Sp s w w' ∧ ((e = .returned (.bool true) ∧ ∃ j, str D n (p + 1) = some j ∧ Spl w' s g n cap D dep j f) ∨ (e = .returned (.bool false) ∧ str D n (p + 1) = none ∧ ∃ p', p ≤ p' ∧ p' ≤ n ∧ Spl w' s g n cap D dep p' f)) := by
  obtain ⟨c0, c1, c2, c3, f1, f3⟩ := h.cells
  have h1 := h.setAt ((p : Int) + 1) (p + 1) (by omega)
  have s1 : Sp s w (w.setCell ⟨s, 1, none⟩ (.int .i64 ((p : Int) + 1))) := (Sp.refl _ _).setCell _ _
  clear h
  go_enter Try.func35, Try.ntmps35
  go_wp2_with fail
  clear c0 c1 c2 c3 f1 f3
  generalize w.setCell ⟨s, 1, none⟩ (.int .i64 ((p : Int) + 1)) = w1 at *
  go_loopw [] (fun wr => ∃ q : Nat, p ≤ q ∧ q ≤ n ∧ str D n q = str D n (p + 1) ∧ Spl wr s g n cap D dep q f ∧ Sp s w wr) (fun wr => n - atOf s wr)
  case atStart => exact ⟨p + 1, by omega, by omega, rfl, h1, s1⟩
  case round =>
    clear h1 s1
    obtain ⟨q, hq0, hq, hw, hS, hsp⟩ := hrel
    obtain ⟨c0, c1, c2, c3, f1, f3⟩ := hS.cells
    have HS : Hid (Spl wr s g n cap D dep q f) := hS
    have HQ : Hid (str D n q = str D n (p + 1)) := hw
    clear hS hw
    by_cases hlt : q < n
    · have b1 : (q : Int) < (n : Int) := by omega
      have d0 := HS.out.dat q hlt
      by_cases e34 : D q = 34
      · have hE : Hid (str D n (p + 1) = some (q + 1)) := HQ.out.symm.trans (str_quote D n hlt e34)
        rw [e34] at d0
        clear e34
        go_wp2
        go_quiet (fail)
        go_wp2
        go_quiet (fail)
        go_wp2
        go_ret
        exact ⟨(hsp.drewN _).setCell _ _, Or.inl ⟨rfl, q + 1, hE.out, (HS.out.drewN _).setAt _ _ (by omega)⟩⟩
      · have t1 : (D q == 34) = false := by rw [beq_eq_false_iff_ne]; exact e34
        by_cases e32 : D q < 32
        · have hE : Hid (str D n (p + 1) = none) := HQ.out.symm.trans (str_low D n hlt e32)
          clear e34
          go_wp2
          go_quiet (fail)
          go_wp2
          go_quiet (fail)
          go_wp2
          go_ret
          exact ⟨hsp.drewN _, Or.inr ⟨rfl, hE.out, q, hq0, hq, HS.out.drewN _⟩⟩
        · have t2 : decide (D q < 32) = false := by simp; omega
          by_cases e92 : D q = 92
          · clear e34 t1 e32 t2
            have E92 : Hid (D q = 92) := e92
            rw [e92] at d0
            clear e92
            go_wp2
            go_quiet (fail)
            go_wp2
            go_quiet (fail)
            go_wp2_with fail
            refine (skipEscape_any s g n cap D dep q f _ (HS.out.drewN _) hlt hn).mono ?_
            rintro e w2 ⟨s2, ⟨rfl, j, hj, h2⟩ | ⟨rfl, hj, p', hp1, hp2, h2⟩⟩
            · have hjn := escAt_ok D n _ _ hj
              have hE : Hid (str D n (j + 1) = str D n (p + 1)) := (str_esc D n hlt E92.out hj).symm.trans HQ.out
              clear c0 c1 c2 c3 f1 f3 d0 hj
              obtain ⟨c0, c1, c2, c3, f1, f3⟩ := h2.cells
              have H2 : Hid (Spl w2 s g n cap D dep j f) := h2
              have S2 : Hid (Sp s w w2) := (hsp.drewN _).trans s2
              clear h2 s2
              go_wp2
              go_roundw
              case rel => exact ⟨j + 1, by omega, by omega, hE.out, H2.out.setAt _ _ (by omega), S2.out.setCell _ _⟩
              case measure => rw [(H2.out.setAt _ (j + 1) (by omega)).at, HS.out.at]; omega
            · have hE : Hid (str D n (p + 1) = none) := HQ.out.symm.trans (str_esc_no D n hlt E92.out hj)
              have S2 : Hid (Sp s w w2) := (hsp.drewN _).trans s2
              clear hj s2
              go_wp2
              go_ret
              exact ⟨S2.out, Or.inr ⟨rfl, hE.out, p', by omega, hp2, h2⟩⟩
          · have t3 : (D q == 92) = false := by rw [beq_eq_false_iff_ne]; exact e92
            have hE : Hid (str D n (q + 1) = str D n (p + 1)) := (str_plain D n hlt e34 e32 e92).symm.trans HQ.out
            clear e34 e92 e32
            go_wp2
            go_quiet (fail)
            go_wp2
            go_quiet (fail)
            go_wp2
            go_roundw
            case rel => exact ⟨q + 1, by omega, by omega, hE.out, (HS.out.drewN _).setAt _ _ (by omega), (hsp.drewN _).setCell _ _⟩
            case measure => rw [((HS.out.drewN _).setAt _ (q + 1) (by omega)).at, HS.out.at]; omega
    · have b1 : decide ((q : Int) < (n : Int)) = false := by simp; omega
      have hE : Hid (str D n (p + 1) = none) := HQ.out.symm.trans (str_out D n (by omega))
      go_wp2
      go_quiet (fail)
      go_wp2
      go_ret
      exact ⟨hsp.drewN _, Or.inr ⟨rfl, hE.out, q, hq0, hq, HS.out.drewN _⟩⟩
end Go.Proofs.Qxb6616012a.G
