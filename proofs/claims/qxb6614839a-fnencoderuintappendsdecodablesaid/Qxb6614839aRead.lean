/-
  zzReadUvarint (16) BY ITS CONTRACT: it reads back what the encoder wrote.
-/
import Derived.Test.Qxb6614839aClone
import Derived.Test.Qxb6614839aPlainB
import Derived.Outline
namespace Go.Proofs.Qxb6614839a
open Go.RowKit

set_option maxRecDepth 100000 in
set_option maxHeartbeats 1000000 in
theorem read_any (g n cap pos x : Nat) (hx : x < 18446744073709551616) (w : World) (hn : n ≤ 2097152) (hpos : pos + (Lib.uvarint x).length ≤ n)
    (hc : ∀ j, j < (Lib.uvarint x).length → w.cell? ⟨g, pos + j, none⟩ = some (.int .u8 (((Lib.uvarint x).getD j 0).toNat : Nat))) :
    Calls Try.prog 16 #[.slice (some ⟨g, 0, none⟩) n cap, .int .i64 (pos : Nat)] w fun e w' => e = .returned (.tuple #[.int .u64 x, .int .i64 ((pos + (Lib.uvarint x).length : Nat) : Int), .bool true]) ∧ w = w' := by
  have hL := Lib.uvarint_length64 hx
  have H : Hid (∀ j, j < (Lib.uvarint x).length → w.cell? ⟨g, pos + j, none⟩ = some (.int .u8 (((Lib.uvarint x).getD j 0).toNat : Nat))) := hc
  clear hc
  go_enter Try.func16, Try.ntmps16
  go_wp2
  go_loop [7, 8, 9, 10] (fun v s i _ => ∃ k : Nat, k < (Lib.uvarint x).length ∧ i = .int .i64 k ∧ s = .int .u64 ((7 * k : Nat) : Int) ∧ v = .int .u64 ((x % 128 ^ k : Nat) : Int)) (fun _ _ i _ => 10 - (intOf i).toNat)
  case atStart => exact ⟨0, Lib.uvarint_pos x, rfl, rfl, by simp [Nat.mod_one]⟩
  case round =>
    obtain ⟨k, hk, rfl, rfl, rfl⟩ := hrel
    have hck := H.out k hk
    have hby := Plain.byte_at x x (Nat.le_refl _) k hk
    have hms := Plain.mod_step x k
    have h7 : (128 : Nat) ^ k = 2 ^ (7 * k) := by rw [Nat.pow_mul]
    have hacc : x % 128 ^ k < 2 ^ (7 * k) := by rw [← h7]; exact Nat.mod_lt _ (Nat.pow_pos (by omega))
    have hle : x % 128 ^ (k + 1) ≤ x := Nat.mod_le _ _
    have b1 : (pos : Int) + (k : Int) < (n : Int) := by omega
    have b2 : (k : Int) < 10 := by omega
    by_cases hlast : k + 1 = (Lib.uvarint x).length
    · obtain ⟨e1, e2, e3⟩ := hby.2 hlast
      have e4 : x / 128 ^ k % 128 = x / 128 ^ k := Nat.mod_eq_of_lt e2
      have e5 : x % 128 ^ (k + 1) = x := by
        refine Nat.mod_eq_of_lt ?_
        rw [Nat.pow_succ, Nat.mul_comm]
        exact (Nat.div_lt_iff_lt_mul (Nat.pow_pos (by omega))).1 e2
      rw [e1] at hck
      rw [e4, e5] at hms
      have h9 : k = 9 → x / 128 ^ k ≤ 1 := by
        rintro rfl
        have : (128 : Nat) ^ 9 = 9223372036854775808 := by decide
        rw [this]
        omega
      have hor := Plain.or_sum (x % 128 ^ k) (x / 128 ^ k) (7 * k) hacc (by omega)
      rw [hms] at hor
      generalize x / 128 ^ k = c at *
      generalize x % 128 ^ k = acc at *
      have hand : bits .and .u8 (c : Int) 127 = (c : Int) := by rw [u8_and127 _ (by omega) (by omega)]; omega
      have HL : Hid (k + 1 = (Lib.uvarint x).length) := hlast
      clear hby hms h7 hacc hle e1 e4 e5 hlast H
      have hend : (pos : Int) + (k : Int) + 1 = (pos : Int) + ((Lib.uvarint x).length : Int) := by have := HL.out; omega
      have HE : Hid ((pos : Int) + (k : Int) + 1 = (pos : Int) + ((Lib.uvarint x).length : Int)) := hend
      clear hend
      by_cases hk0 : k = 0
      · have e8 : ((k : Int) == 9) = false := by rw [beq_eq_false_iff_ne]; omega
        have e7 : (k : Int) ≤ 0 := by omega
        clear h9 hk0 e3
        go_wp2
        go_ret3
        exact ⟨by rw [HE.out]; rfl, rfl⟩
      · have e6 : ((c : Int) == 0) = false := by rw [beq_eq_false_iff_ne]; have := e3 (by omega); omega
        have e5 : (0 : Int) < (k : Int) := by omega
        by_cases hk9 : k = 9
        · have e7 := h9 hk9
          have e8 : ((k : Int) == 9) = true := by rw [beq_iff_eq]; omega
          clear h9 hk9 hk0
          go_wp2
          go_ret3
          exact ⟨by rw [HE.out]; rfl, rfl⟩
        · have e8 : ((k : Int) == 9) = false := by rw [beq_eq_false_iff_ne]; omega
          clear h9 hk9 hk0
          go_wp2
          go_ret3
          exact ⟨by rw [HE.out]; rfl, rfl⟩
    · have e1 := hby.1 (by omega)
      rw [e1] at hck
      have hor := Plain.or_sum (x % 128 ^ k) (x / 128 ^ k % 128) (7 * k) hacc (by omega)
      rw [hms] at hor
      have hd : x / 128 ^ k % 128 < 128 := Nat.mod_lt _ (by omega)
      obtain ⟨acc', HA⟩ : ∃ a, Hid (x % 128 ^ (k + 1) = a) := ⟨_, rfl⟩
      rw [HA.out] at hor
      generalize x / 128 ^ k % 128 = d at *
      generalize x % 128 ^ k = acc at *
      have hand : bits .and .u8 ((d : Int) + 128) 127 = (d : Int) := by rw [u8_and127 _ (by omega) (by omega)]; omega
      have e8 : ((k : Int) == 9) = false := by rw [beq_eq_false_iff_ne]; omega
      clear hby hms h7 hacc hle e1 H
      go_wp2
      go_round
      case rel => exact ⟨k + 1, by omega, by go_num, by go_num, by rw [HA.out]⟩
      case measure => simp [intOf]; omega

end Go.Proofs.Qxb6614839a
