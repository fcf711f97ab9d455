/-
  THE SPLITTER BETWEEN VALUES: memberName, nextIn, opens.
-/
import Derived.Test.Qxb6616012aGStr
import Derived.Deep.Cut
import Derived.StillTailTactics
namespace Go.Proofs.Qxb6616012a.G
open Go.RowKit

/-- What memberName, nextElement, nextIn leave. c: the closer; first: no value has been read; b: a value comes. -/
def Nexted (s g n cap : Nat) (D : Nat → Int) (dep : Int) (p : Nat) (first : Bool) (c : Int) (w w' : World) (b : Bool) : Prop :=
  Sp s w w' ∧
  ((b = false ∧ (ws D n p < n ∧ D (ws D n p) = c) ∧ Spl w' s g n cap D dep (ws D n p + 1) false) ∨
   (b = false ∧ ¬ (ws D n p < n ∧ D (ws D n p) = c) ∧ (∀ j, cont D n first (ws D n p) = some j → pre D n c j = none) ∧ ∃ p', p ≤ p' ∧ p' ≤ n ∧ Spl w' s g n cap D dep p' true) ∨
   (b = true ∧ ¬ (ws D n p < n ∧ D (ws D n p) = c) ∧ ∃ p' j, p ≤ p' ∧ p' ≤ n ∧ Spl w' s g n cap D dep p' false ∧ cont D n first (ws D n p) = some j ∧ pre D n c j = some (ws D n p')))

set_option maxHeartbeats 1000000 in
set_option maxRecDepth 100000 in
theorem memberName_any (s g n cap : Nat) (D : Nat → Int) (dep : Int) (p : Nat) (i : Nat) (w : World) (h : Spl w s g n cap D dep p false) (hp : p ≤ n) (hn : n ≤ 1048576) :
    Calls Try.prog 32 #[.pointer (some ⟨s, 0, none⟩), .int .i64 i] w fun e w' => ∃ v b, e = .returned (.tuple #[v, .bool b]) ∧ Nexted s g n cap D dep p (decide (i = 0)) 125 w w' b := by
  have hw1 := ws_le D n p
  have hw2 := ws_n D n hp
  have hle := h.le
  go_enter Try.func32, Try.ntmps32
  go_wp2_with fail
  refine (takes_any s g n cap D dep p false 125 w h hp hn).mono ?_
  rintro e w1 ⟨b, p', rfl, h1, s1, hb⟩
  clear h
  rcases hb with ⟨rfl, hb, rfl⟩ | ⟨rfl, hb, rfl⟩
  · have HB : Hid (ws D n p < n ∧ D (ws D n p) = 125) := hb
    clear hb
    go_wp2
    go_ret2
    exact ⟨_, _, rfl, s1, Or.inl ⟨rfl, HB.out, h1⟩⟩
  have HB : Hid (¬ (ws D n p < n ∧ D (ws D n p) = 125)) := hb
  clear hb
  go_upto_region 3 with fail
  go_cut [16] from 8 (fun v wx => ∃ b, v = .bool b ∧ Sp s w wx ∧ ((b = false ∧ ∃ q, p ≤ q ∧ q ≤ n ∧ Spl wx s g n cap D dep q false ∧ cont D n (decide (i = 0)) (ws D n p) = some (ws D n q)) ∨ (b = true ∧ cont D n (decide (i = 0)) (ws D n p) = none ∧ Spl wx s g n cap D dep (ws D n p) false)))
  case first =>
    by_cases hi : i = 0
    · have b1 : decide ((0 : Int) < (i : Int)) = false := by simp; omega
      go_wp2
      go_meet
      case rel => exact ⟨false, rfl, s1, Or.inl ⟨rfl, ws D n p, hw1, hw2, h1, by simp [cont, ws_ws, hi]⟩⟩
    · have b1 : (0 : Int) < (i : Int) := by omega
      go_wp2_with fail
      refine (takes_any s g n cap D dep (ws D n p) false 44 w1 h1 hw2 hn).mono ?_
      rintro e w2 ⟨b, p', rfl, h2, s2, hb⟩
      rw [ws_ws] at hb
      rcases hb with ⟨rfl, hb, rfl⟩ | ⟨rfl, hb, rfl⟩
      · have hl := hb.1
        have HC : Hid (cont D n (decide (i = 0)) (ws D n p) = some (ws D n (ws D n p + 1))) := by unfold Hid; simp [cont, hi, hb]
        clear hb
        go_wp2
        go_meet
        case rel => exact ⟨false, rfl, s1.trans s2, Or.inl ⟨rfl, ws D n p + 1, by omega, by omega, h2, HC.out⟩⟩
      · have HC : Hid (cont D n (decide (i = 0)) (ws D n p) = none) := by unfold Hid; simp [cont, hi]; exact fun a b => hb ⟨a, b⟩
        clear hb
        go_wp2
        go_meet
        case rel => exact ⟨true, rfl, s1.trans s2, Or.inr ⟨rfl, HC.out, h2⟩⟩
  case rest =>
    clear h1 s1
    obtain ⟨b, rfl, s1, ⟨rfl, q, q0, qn, h1, hq⟩ | ⟨rfl, hq, h1⟩⟩ := hcut
    rotate_left
    · have HQ : Hid (cont D n (decide (i = 0)) (ws D n p) = none) := hq
      clear hq
      go_wp2_with fail
      refine (fail_any s g n cap D dep (ws D n p) false _ h1).mono ?_
      rintro e w2 ⟨rfl, h2, s2⟩
      go_wp2
      go_ret2
      exact ⟨_, _, rfl, s1.trans s2, Or.inr (Or.inl ⟨rfl, HB.out, fun j hj => (by rw [HQ.out] at hj; cases hj), ws D n p, hw1, hw2, h2⟩)⟩
    have HQ : Hid (cont D n (decide (i = 0)) (ws D n p) = some (ws D n q)) := hq
    clear hq
    go_wp2_with fail
    refine (skipSpace_any s g n cap D dep q false _ h1 qn hn).mono ?_
    rintro e w2 ⟨rfl, h2, s2⟩
    have k1 := ws_le D n q
    have k2 := ws_n D n qn
    have S2 : Hid (Sp s w w2) := s1.trans s2
    clear s1 s2 h1
    revert HQ k1 k2 h2
    generalize ws D n q = j
    intro HQ h2 k1 k2
    obtain ⟨c0, c1, c2, c3, f1, f3⟩ := h2.cells
    have H2 : Hid (Spl w2 s g n cap D dep j false) := h2
    clear h2
    by_cases hj : j < n
    rotate_left
    · have t0 : ((j : Int) == (n : Int)) = true := by rw [beq_iff_eq]; omega
      have HP : Hid (pre D n 125 j = none) := by unfold Hid pre; rw [if_pos rfl, if_neg (fun h => hj h.1)]
      go_wp2
      go_quiet (fail)
      go_wp2_with fail
      refine (fail_any s g n cap D dep j false _ (H2.out.drewN _)).mono ?_
      rintro e w3 ⟨rfl, h3, s3⟩
      go_wp2
      go_ret2
      exact ⟨_, _, rfl, (S2.out.drewN _).trans s3, Or.inr (Or.inl ⟨rfl, HB.out, fun j' hj' => by rw [HQ.out] at hj'; cases hj'; exact HP.out, j, by omega, by omega, h3⟩)⟩
    have t0 : ((j : Int) == (n : Int)) = false := by rw [beq_eq_false_iff_ne]; omega
    have b1 : (j : Int) < (n : Int) := by omega
    have d0 := H2.out.dat j hj
    by_cases hc : D j = 34
    rotate_left
    · have t1 : (D j != 34) = true := by rw [bne_iff_ne]; exact hc
      have HP : Hid (pre D n 125 j = none) := by unfold Hid pre; rw [if_pos rfl, if_neg (fun h => hc h.2)]
      clear hc
      go_wp2
      go_quiet (fail)
      go_wp2_with fail
      refine (fail_any s g n cap D dep j false _ (H2.out.drewN _)).mono ?_
      rintro e w3 ⟨rfl, h3, s3⟩
      go_wp2
      go_ret2
      exact ⟨_, _, rfl, (S2.out.drewN _).trans s3, Or.inr (Or.inl ⟨rfl, HB.out, fun j' hj' => by rw [HQ.out] at hj'; cases hj'; exact HP.out, j, by omega, by omega, h3⟩)⟩
    have HC : Hid (D j = 34) := hc
    rw [hc] at d0
    clear hc
    go_wp2
    go_still_tail 24, (by rfl)
    go_wp2_with fail
    refine (skipString_any s g n cap D dep j false _ (H2.out.drewN 1) hj hn).mono ?_
    rintro e w3 ⟨s3, ⟨rfl, e3, hs, h3⟩ | ⟨rfl, hs, p', hp1, hp2, h3⟩⟩
    rotate_left
    · have HP : Hid (pre D n 125 j = none) := by unfold Hid pre; rw [if_pos rfl, if_pos ⟨hj, HC.out⟩, hs]
      have S3 : Hid (Sp s w w3) := (S2.out.drewN 1).trans s3
      clear hs s3
      go_wp2_with fail
      refine (fail_any s g n cap D dep p' false _ h3).mono ?_
      rintro e w4 ⟨rfl, h4, s4⟩
      go_wp2
      go_ret2
      exact ⟨_, _, rfl, S3.out.trans s4, Or.inr (Or.inl ⟨rfl, HB.out, fun j' hj' => (by rw [HQ.out] at hj'; cases hj'; exact HP.out), p', by omega, by omega, h4⟩)⟩
    have hs2 := str_n D n _ _ hs
    have S3 : Hid (Sp s w w3) := (S2.out.drewN 1).trans s3
    have HS : Hid (str D n (j + 1) = some e3) := hs
    have m1 := ws_le D n e3
    have m2 := ws_n D n hs2.2
    clear hs s3 c0 c1 c2 c3 f1 f3 d0 S2
    obtain ⟨c0, c1, c2, c3, f1, f3⟩ := h3.cells
    have b2 : (j : Int) ≤ (e3 : Int) := by omega
    have b3 : (e3 : Int) ≤ (cap : Int) := by omega
    have H3 : Hid (Spl w3 s g n cap D dep e3 false) := h3
    clear h3
    go_wp2
    go_quiet (fail)
    go_wp2_with fail
    refine (takes_any s g n cap D dep e3 false 58 _ (H3.out.drewN _) hs2.2 hn).mono ?_
    rintro e w4 ⟨b, p4, rfl, h4, s4, hb⟩
    rcases hb with ⟨rfl, hb, hp4⟩ | ⟨rfl, hb, hp4⟩
    · have hl := hb.1
      have HP : Hid (pre D n 125 j = some (ws D n (ws D n e3 + 1))) := by unfold Hid pre; rw [if_pos rfl, if_pos ⟨hj, HC.out⟩, HS.out]; simp only []; rw [if_pos hb]
      have S4 : Hid (Sp s w w4) := (S3.out.drewN _).trans s4
      rw [hp4] at h4
      clear hb hp4 s4
      go_wp2
      go_ret2
      exact ⟨_, _, rfl, S4.out, Or.inr (Or.inr ⟨rfl, HB.out, ws D n e3 + 1, j, by omega, by omega, h4, HQ.out, HP.out⟩)⟩
    · have HP : Hid (pre D n 125 j = none) := by unfold Hid pre; rw [if_pos rfl, if_pos ⟨hj, HC.out⟩, HS.out]; simp only []; rw [if_neg hb]
      have S4 : Hid (Sp s w w4) := (S3.out.drewN _).trans s4
      rw [hp4] at h4
      clear hb hp4 s4
      go_wp2_with fail
      refine (fail_any s g n cap D dep (ws D n e3) false _ h4).mono ?_
      rintro e w5 ⟨rfl, h5, s5⟩
      go_wp2
      go_ret2
      exact ⟨_, _, rfl, S4.out.trans s5, Or.inr (Or.inl ⟨rfl, HB.out, fun j' hj' => (by rw [HQ.out] at hj'; cases hj'; exact HP.out), ws D n e3, by omega, by omega, h5⟩)⟩

theorem nextIn_any (s g n cap : Nat) (D : Nat → Int) (dep : Int) (p : Nat) (i : Nat) (c : Int) (hc : c = 125 ∨ c = 93) (w : World) (h : Spl w s g n cap D dep p false) (hp : p ≤ n) (hn : n ≤ 1048576) :
    Calls Try.prog 25 #[.pointer (some ⟨s, 0, none⟩), .int .u8 c, .int .i64 i] w fun e w' => ∃ b, e = .returned (.bool b) ∧ Nexted s g n cap D dep p (decide (i = 0)) c w w' b := by
  rcases hc with rfl | rfl
  · go_enter Try.func25, Try.ntmps25
    go_wp2_with fail
    refine (memberName_any s g n cap D dep p i w h hp hn).mono ?_
    rintro e w1 ⟨v, b, rfl, hN⟩
    go_wp2
    go_ret
    exact ⟨b, rfl, hN⟩
  · go_enter Try.func25, Try.ntmps25
    go_wp2_with fail
    refine (nextElement_any s g n cap D dep p i w h hp hn).mono ?_
    rintro e w1 ⟨s1, ⟨rfl, h1, h2⟩ | ⟨h0, rfl, h1, h2⟩ | ⟨h0, rfl, p', h1, h2, h3, h4⟩⟩
    · have H1 : Hid (ws D n p < n ∧ D (ws D n p) = 93) := h1
      clear h1
      go_wp2
      go_ret
      exact ⟨false, rfl, s1, Or.inl ⟨rfl, H1.out, h2⟩⟩
    · have H0 : Hid (¬ (ws D n p < n ∧ D (ws D n p) = 93)) := h0
      have H1 : Hid (cont D n (decide (i = 0)) (ws D n p) = none) := h1
      clear h0 h1
      go_wp2
      go_ret
      exact ⟨false, rfl, s1, Or.inr (Or.inl ⟨rfl, H0.out, fun j hj => (by rw [H1.out] at hj; cases hj), h2⟩)⟩
    · have H0 : Hid (¬ (ws D n p < n ∧ D (ws D n p) = 93)) := h0
      have H4 : Hid (cont D n (decide (i = 0)) (ws D n p) = some (ws D n p')) := h4
      clear h0 h4
      go_wp2
      go_ret
      exact ⟨true, rfl, s1, Or.inr (Or.inr ⟨rfl, H0.out, p', ws D n p', h1, h2, h3, H4.out, by simp [pre]⟩)⟩

set_option maxHeartbeats 1000000 in
set_option maxRecDepth 100000 in
/-- opens: whether a container begins behind the white space. -/
theorem opens_any (s g n cap : Nat) (D : Nat → Int) (dep : Int) (p : Nat) (f : Bool) (w : World) (h : Spl w s g n cap D dep p f) (hp : p ≤ n) (hn : n ≤ 1048576) :
    Calls Try.prog 26 #[.pointer (some ⟨s, 0, none⟩)] w fun e w' => Sp s w w' ∧ Spl w' s g n cap D dep (ws D n p) f ∧ ∃ b, e = .returned (.bool b) ∧ ((b = true ∧ ws D n p < n ∧ (D (ws D n p) = 123 ∨ D (ws D n p) = 91)) ∨ (b = false ∧ (ws D n p < n → D (ws D n p) ≠ 123 ∧ D (ws D n p) ≠ 91))) := by
  obtain ⟨j, hjw⟩ : ∃ j, ws D n p = j := ⟨_, rfl⟩
  rw [hjw]
  have HJ : Hid (ws D n p = j) := hjw
  clear hjw
  go_enter Try.func26, Try.ntmps26
  go_wp2_with fail
  refine (skipSpace_any s g n cap D dep p f w h hp hn).mono ?_
  rintro e w2 ⟨rfl, h2, s2⟩
  clear h
  have k2 := ws_n D n hp
  rw [HJ.out] at h2 k2
  obtain ⟨c0, c1, c2, c3, f1, f3⟩ := h2.cells
  have H2 : Hid (Spl w2 s g n cap D dep j f) := h2
  have S2 : Hid (Sp s w w2) := s2
  clear h2 s2
  by_cases hj : j < n
  · have b1 : (j : Int) < (n : Int) := by omega
    have d0 := H2.out.dat j hj
    by_cases h1 : D j = 123
    · rw [h1] at d0
      have H1 : Hid (D j = 123) := h1
      clear h1
      go_wp2
      go_quiet (fail)
      go_wp2
      go_ret
      exact ⟨S2.out.drewN _, H2.out.drewN _, true, rfl, Or.inl ⟨rfl, hj, Or.inl H1.out⟩⟩
    have t1 : (D j == 123) = false := by rw [beq_eq_false_iff_ne]; exact h1
    by_cases h9 : D j = 91
    · rw [h9] at d0
      have H9 : Hid (D j = 91) := h9
      clear h9 h1 t1
      go_wp2
      go_quiet (fail)
      go_wp2
      go_ret
      exact ⟨S2.out.drewN _, H2.out.drewN _, true, rfl, Or.inl ⟨rfl, hj, Or.inr H9.out⟩⟩
    have t2 : (D j == 91) = false := by rw [beq_eq_false_iff_ne]; exact h9
    have HN : Hid (D j ≠ 123 ∧ D j ≠ 91) := ⟨h1, h9⟩
    clear h1 h9
    go_wp2
    go_quiet (fail)
    go_wp2
    go_ret
    exact ⟨S2.out.drewN _, H2.out.drewN _, false, rfl, Or.inr ⟨rfl, fun _ => HN.out⟩⟩
  · have b1 : decide ((j : Int) < (n : Int)) = false := by simp; omega
    have HN : Hid (¬ j < n) := hj
    go_wp2
    go_quiet (fail)
    go_wp2
    go_ret
    exact ⟨S2.out.drewN _, H2.out.drewN _, false, rfl, Or.inr ⟨rfl, fun h => absurd h HN.out⟩⟩
end Go.Proofs.Qxb6616012a.G
