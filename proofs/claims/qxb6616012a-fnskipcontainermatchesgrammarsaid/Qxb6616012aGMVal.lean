/-
  THE MODEL's VALUES: zzValue.
-/
import Derived.Test.Qxb6616012aGMObj
namespace Go.Proofs.Qxb6616012a.G
open Go.RowKit

set_option maxHeartbeats 1000000 in
set_option maxRecDepth 100000 in
theorem zzValue_step (g n cap : Nat) (D : Nat → Int) (hn : n ≤ 1048576) (i lev : Nat) (w : World) (hV : ValueBehind g n cap D i) (hi : i ≤ n) (hl : lev ≤ 10000) (h : Dat w g n D) :
    Calls Try.prog 12 #[.slice (some ⟨g, 0, none⟩) n cap, .int .i64 i, .int .i64 lev] w fun e w' => Told (val D n i lev) e ∧ ∃ k, w' = w.drewN k := by
  have HD : Hid (Dat w g n D) := h
  have HV : Hid (ValueBehind g n cap D i) := hV
  clear h hV
  obtain ⟨R, hR⟩ : ∃ R, val D n i lev = R := ⟨_, rfl⟩
  rw [hR]
  rw [val_eq] at hR
  by_cases hlt : i < n
  rotate_left
  · have b1 : (n : Int) ≤ (i : Int) := by omega
    have E : Hid (R = .error false) := hR.symm.trans (if_pos (by omega))
    clear hR
    go_enter Try.func12, Try.ntmps12
    go_wp2
    go_ret3
    rw [E.out]
    exact ⟨told_error _ _, 0, rfl⟩
  have b1 : decide ((n : Int) ≤ (i : Int)) = false := by simp; omega
  have b2 : (i : Int) < (n : Int) := by omega
  have d0 := HD.out i hlt
  rw [if_neg (by omega)] at hR
  by_cases h123 : D i = 123
  · rw [if_pos (Or.inl h123), h123, show closer 123 = 125 from rfl] at hR
    have HR : Hid _ := hR
    rw [h123] at d0
    clear h123 hR
    go_enter Try.func12, Try.ntmps12
    go_wp2_with fail
    refine (zzObject_any g n cap D i lev w HD.out hlt hn hl HV.out).mono ?_
    rintro e w2 ⟨hT, k, rfl⟩
    rw [HR.out] at hT
    clear HR
    cases R with
    | error b =>
      obtain ⟨z, rfl⟩ := hT
      go_wp2
      go_ret3
      exact ⟨told_error _ _, _, rfl⟩
    | ok j =>
      have hT' : e = .returned (.tuple #[.int .i64 (j : Nat), .bool true, .bool false]) := hT
      subst hT'
      clear hT
      go_wp2
      go_ret3
      exact ⟨told_ok _ _ rfl, _, rfl⟩
  have x1 : (D i == 123) = false := by rw [beq_eq_false_iff_ne]; exact h123
  by_cases h91 : D i = 91
  · rw [if_pos (Or.inr h91), h91, show closer 91 = 93 from rfl] at hR
    have HR : Hid _ := hR
    rw [h91] at d0
    clear h91 h123 hR x1
    go_enter Try.func12, Try.ntmps12
    go_wp2_with fail
    refine (zzArray_any g n cap D i lev w HD.out hlt hn hl HV.out).mono ?_
    rintro e w2 ⟨hT, k, rfl⟩
    rw [HR.out] at hT
    clear HR
    cases R with
    | error b =>
      obtain ⟨z, rfl⟩ := hT
      go_wp2
      go_ret3
      exact ⟨told_error _ _, _, rfl⟩
    | ok j =>
      have hT' : e = .returned (.tuple #[.int .i64 (j : Nat), .bool true, .bool false]) := hT
      subst hT'
      clear hT
      go_wp2
      go_ret3
      exact ⟨told_ok _ _ rfl, _, rfl⟩
  have x2 : (D i == 91) = false := by rw [beq_eq_false_iff_ne]; exact h91
  rw [if_neg (fun h => h.elim h123 h91)] at hR
  by_cases e34 : D i = 34
  · have E : Hid (R = match str D n (i + 1) with
        | none => .error false
        | some e => .ok e) := by unfold Hid; rw [← hR]; unfold scal; rw [if_pos e34]; cases str D n (i + 1) <;> rfl
    rw [e34] at d0
    clear hR e34 h123 h91 x1 x2
    go_enter Try.func12, Try.ntmps12
    go_wp2_with fail
    refine (zzString_any g n cap D i w HD.out hlt hn).mono ?_
    rintro e w2 ⟨rfl, z, b, rfl, ⟨rfl, j, hj, rfl⟩ | ⟨rfl, hj⟩⟩
    · have E2 : Hid (R = .ok j) := E.out.trans (by rw [hj])
      clear E hj
      go_wp2
      go_ret3
      rw [E2.out]
      exact ⟨told_ok _ _ rfl, 0, rfl⟩
    · have E2 : Hid (R = .error false) := E.out.trans (by rw [hj])
      clear E hj
      go_wp2
      go_ret3
      rw [E2.out]
      exact ⟨told_error _ _, 0, rfl⟩
  have x3 : (D i == 34) = false := by rw [beq_eq_false_iff_ne]; exact e34
  by_cases e116 : D i = 116
  · have E : Hid (R = match word D n [116, 114, 117, 101] i with
        | none => .error false
        | some e => .ok e) := by unfold Hid; rw [← hR]; unfold scal; rw [if_neg e34, if_pos e116]; cases word D n [116, 114, 117, 101] i <;> rfl
    rw [e116] at d0
    clear hR e116 e34 h123 h91 x1 x2 x3
    go_enter Try.func12, Try.ntmps12
    go_wp2_with fail
    refine (zzWord_any g n cap D i _ _ word_true w HD.out hi hn (by decide)).mono ?_
    rintro e w2 ⟨⟨k, rfl⟩, z, b, rfl, ⟨rfl, j, hj, rfl⟩ | ⟨rfl, hj⟩⟩
    · have E2 : Hid (R = .ok j) := E.out.trans (by rw [hj])
      clear E hj
      go_wp2
      go_ret3
      rw [E2.out]
      exact ⟨told_ok _ _ rfl, _, rfl⟩
    · have E2 : Hid (R = .error false) := E.out.trans (by rw [hj])
      clear E hj
      go_wp2
      go_ret3
      rw [E2.out]
      exact ⟨told_error _ _, _, rfl⟩
  have x4 : (D i == 116) = false := by rw [beq_eq_false_iff_ne]; exact e116
  by_cases e102 : D i = 102
  · have E : Hid (R = match word D n [102, 97, 108, 115, 101] i with
        | none => .error false
        | some e => .ok e) := by unfold Hid; rw [← hR]; unfold scal; rw [if_neg e34, if_neg e116, if_pos e102]; cases word D n [102, 97, 108, 115, 101] i <;> rfl
    rw [e102] at d0
    clear hR e102 e116 e34 h123 h91 x1 x2 x3 x4
    go_enter Try.func12, Try.ntmps12
    go_wp2_with fail
    refine (zzWord_any g n cap D i _ _ word_false w HD.out hi hn (by decide)).mono ?_
    rintro e w2 ⟨⟨k, rfl⟩, z, b, rfl, ⟨rfl, j, hj, rfl⟩ | ⟨rfl, hj⟩⟩
    · have E2 : Hid (R = .ok j) := E.out.trans (by rw [hj])
      clear E hj
      go_wp2
      go_ret3
      rw [E2.out]
      exact ⟨told_ok _ _ rfl, _, rfl⟩
    · have E2 : Hid (R = .error false) := E.out.trans (by rw [hj])
      clear E hj
      go_wp2
      go_ret3
      rw [E2.out]
      exact ⟨told_error _ _, _, rfl⟩
  have x5 : (D i == 102) = false := by rw [beq_eq_false_iff_ne]; exact e102
  by_cases e110 : D i = 110
  · have E : Hid (R = match word D n [110, 117, 108, 108] i with
        | none => .error false
        | some e => .ok e) := by unfold Hid; rw [← hR]; unfold scal; rw [if_neg e34, if_neg e116, if_neg e102, if_pos e110]; cases word D n [110, 117, 108, 108] i <;> rfl
    rw [e110] at d0
    clear hR e110 e102 e116 e34 h123 h91 x1 x2 x3 x4 x5
    go_enter Try.func12, Try.ntmps12
    go_wp2_with fail
    refine (zzWord_any g n cap D i _ _ word_null w HD.out hi hn (by decide)).mono ?_
    rintro e w2 ⟨⟨k, rfl⟩, z, b, rfl, ⟨rfl, j, hj, rfl⟩ | ⟨rfl, hj⟩⟩
    · have E2 : Hid (R = .ok j) := E.out.trans (by rw [hj])
      clear E hj
      go_wp2
      go_ret3
      rw [E2.out]
      exact ⟨told_ok _ _ rfl, _, rfl⟩
    · have E2 : Hid (R = .error false) := E.out.trans (by rw [hj])
      clear E hj
      go_wp2
      go_ret3
      rw [E2.out]
      exact ⟨told_error _ _, _, rfl⟩
  have x6 : (D i == 110) = false := by rw [beq_eq_false_iff_ne]; exact e110
  have E : Hid (R = match num D n i with
      | none => .error false
      | some e => .ok e) := by unfold Hid; rw [← hR]; unfold scal; rw [if_neg e34, if_neg e116, if_neg e102, if_neg e110]; cases num D n i <;> rfl
  clear hR e110 e102 e116 e34 h123 h91
  go_enter Try.func12, Try.ntmps12
  go_wp2_with fail
  refine (zzNumber_any g n cap D i w HD.out hi hn).mono ?_
  rintro e w2 ⟨rfl, z, b, rfl, ⟨rfl, j, hj, rfl⟩ | ⟨rfl, hj⟩⟩
  · have E2 : Hid (R = .ok j) := E.out.trans (by rw [hj])
    clear E hj
    go_wp2
    go_ret3
    rw [E2.out]
    exact ⟨told_ok _ _ rfl, 0, rfl⟩
  · have E2 : Hid (R = .error false) := E.out.trans (by rw [hj])
    clear E hj
    go_wp2
    go_ret3
    rw [E2.out]
    exact ⟨told_error _ _, 0, rfl⟩

theorem zzValue_any (g n cap : Nat) (D : Nat → Int) (hn : n ≤ 1048576) (i lev : Nat) (w : World) (hi : i ≤ n) (hl : lev ≤ 10000) (h : Dat w g n D) :
    Calls Try.prog 12 #[.slice (some ⟨g, 0, none⟩) n cap, .int .i64 i, .int .i64 lev] w fun e w' => Told (val D n i lev) e ∧ ∃ k, w' = w.drewN k := by
  induction hm : n - i using Nat.strongRecOn generalizing i lev w with
  | ind m ih =>
    exact zzValue_step g n cap D hn i lev w (fun q lev' w' hq hqn hl' hd => ih (n - q) (by omega) q lev' w' hqn hl' hd rfl) hi hl h
#print axioms zzValue_any
end Go.Proofs.Qxb6616012a.G
