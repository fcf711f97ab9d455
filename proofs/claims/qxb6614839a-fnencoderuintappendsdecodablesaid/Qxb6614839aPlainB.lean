/-
  PLAIN FACTS ON VARINTS, II: the bytes one by one; how they are put together again.
-/
import Derived.Lib.Varint
import Derived.Lib.VarintMem
import Derived.Lib.VarintBits
namespace Go.Proofs.Qxb6614839a.Plain
open Go

/-- The bytes of a varint, one by one. -/
theorem byte_at : ∀ (n x : Nat), x ≤ n → ∀ j, j < (Lib.uvarint x).length →
    (j + 1 < (Lib.uvarint x).length → ((Lib.uvarint x).getD j 0).toNat = x / 128 ^ j % 128 + 128) ∧
    (j + 1 = (Lib.uvarint x).length → ((Lib.uvarint x).getD j 0).toNat = x / 128 ^ j ∧ x / 128 ^ j < 128 ∧ (0 < j → 1 ≤ x / 128 ^ j))
  | 0, x, hx, j, hj => by
    have h0 : x = 0 := by omega
    subst h0
    rw [Lib.uvarint_small (by omega)] at hj ⊢
    simp only [List.length_singleton] at hj ⊢
    have : j = 0 := by omega
    subst this
    simp
  | n + 1, x, hx, j, hj => by
    by_cases h : x < 128
    · rw [Lib.uvarint_small h] at hj ⊢
      simp only [List.length_singleton] at hj ⊢
      have : j = 0 := by omega
      subst this
      simp [Lib.toUInt8_toNat (show x < 256 by omega), h]
    · rw [Lib.uvarint_big (by omega)] at hj ⊢
      rw [List.length_cons] at hj ⊢
      have hp := Lib.uvarint_pos (x / 128)
      match j, hj with
      | 0, _ =>
        have e : ((x % 128 + 128).toUInt8).toNat = x % 128 + 128 := Lib.toUInt8_toNat (by omega)
        simp only [List.getD_cons_zero, e, Nat.pow_zero, Nat.div_one]
        exact ⟨fun _ => trivial, fun h => by omega⟩
      | j + 1, hj =>
        have ih := byte_at n (x / 128) (by omega) j (by omega)
        have e : x / 128 / 128 ^ j = x / 128 ^ (j + 1) := by rw [Nat.div_div_eq_div_mul, Nat.pow_succ, Nat.mul_comm]
        rw [e] at ih
        simp only [List.getD_cons_succ]
        refine ⟨fun h1 => ih.1 (by omega), fun h1 => ?_⟩
        obtain ⟨h2, h3, h4⟩ := ih.2 (by omega)
        refine ⟨h2, h3, fun _ => ?_⟩
        by_cases hj0 : j = 0
        · subst hj0
          rw [← e, Nat.pow_zero, Nat.div_one]
          omega
        · exact h4 (by omega)

theorem or_sum (acc d s : Nat) (ha : acc < 2 ^ s) (h : d * 2 ^ s + acc < 18446744073709551616) :
    bits .or .u64 (acc : Int) (IntKind.u64.wrap ((d : Int) * 2 ^ s)) = ((acc + d * 2 ^ s : Nat) : Int) := by
  have e : (d : Int) * 2 ^ s = ((d * 2 ^ s : Nat) : Int) := by
    rw [Int.natCast_mul, Int.natCast_pow]
    rfl
  rw [e]
  generalize hm : d * 2 ^ s = m at *
  have h64 : (2 : Nat) ^ 64 = 18446744073709551616 := by decide
  rw [u64_wrap_id (m : Int) (by omega) (by omega), (bits_nat .u64 64 (by decide) wraps_u64 acc m (by rw [h64]; omega) (by rw [h64]; omega)).2]
  congr 1
  have := Nat.two_pow_add_eq_or_of_lt ha d
  rw [Nat.mul_comm, hm] at this
  rw [Nat.or_comm, ← this, Nat.add_comm]

theorem mod_step (x k : Nat) : x % 128 ^ k + (x / 128 ^ k % 128) * 2 ^ (7 * k) = x % 128 ^ (k + 1) := by
  have h7 : (128 : Nat) ^ k = 2 ^ (7 * k) := by rw [Nat.pow_mul]
  rw [Nat.pow_succ, Nat.mod_mul, ← h7, Nat.mul_comm]

end Go.Proofs.Qxb6614839a.Plain
