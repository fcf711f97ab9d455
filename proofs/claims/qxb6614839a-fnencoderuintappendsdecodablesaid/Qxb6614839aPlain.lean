/-
  PLAIN FACTS ON VARINTS: no Go in sight. The length of 'Lib.uvarint x' by bit length; which byte is the last; a larger number never takes fewer bytes.
-/
import Derived.Lib.Varint
import Derived.Lib.VarintMem
namespace Go.Proofs.Qxb6614839a.Plain
open Go

/-- A number of at least 128 ^ m takes more than m bytes. -/
theorem length_ge : ∀ (m x : Nat), 128 ^ m ≤ x → m + 1 ≤ (Lib.uvarint x).length
  | 0, x, _ => Lib.uvarint_pos x
  | m + 1, x, h => by
    have hp : 1 ≤ 128 ^ m := Nat.one_le_pow _ _ (by omega)
    rw [Nat.pow_succ] at h
    have h128 : 128 ≤ x := by omega
    rw [Lib.uvarint_big h128, List.length_cons]
    have := length_ge m (x / 128) ((Nat.le_div_iff_mul_le (by omega)).2 h)
    omega

/-- A larger number never takes fewer bytes. -/
theorem length_mono : ∀ (n a : Nat), a ≤ n → ∀ v, a ≤ v → (Lib.uvarint a).length ≤ (Lib.uvarint v).length
  | 0, a, ha, v, _ => by
    have h0 : a = 0 := by omega
    subst h0
    rw [Lib.uvarint_small (by omega)]
    have := Lib.uvarint_pos v
    simpa using this
  | n + 1, a, ha, v, hv => by
    by_cases h : a < 128
    · rw [Lib.uvarint_small h]
      have := Lib.uvarint_pos v
      simpa using this
    · rw [Lib.uvarint_big (by omega), Lib.uvarint_big (x := v) (by omega), List.length_cons, List.length_cons]
      have := length_mono n (a / 128) (by omega) (v / 128) (Nat.div_le_div_right hv)
      omega

/-- Among the bytes of a varint just the last is below 128. -/
theorem byte_last : ∀ (n x : Nat), x ≤ n → ∀ j, j < (Lib.uvarint x).length → (((Lib.uvarint x).getD j 0).toNat < 128 ↔ j + 1 = (Lib.uvarint x).length)
  | 0, x, hx, j, hj => by
    have h0 : x = 0 := by omega
    subst h0
    rw [Lib.uvarint_small (by omega)] at hj ⊢
    simp only [List.length_singleton] at hj ⊢
    have : j = 0 := by omega
    subst this
    simp
  | n + 1, x, hx, j, hj => by
    by_cases h : x < 128
    · rw [Lib.uvarint_small h] at hj ⊢
      simp only [List.length_singleton] at hj ⊢
      have : j = 0 := by omega
      subst this
      simp [Lib.toUInt8_toNat (show x < 256 by omega), h]
    · rw [Lib.uvarint_big (by omega)] at hj ⊢
      rw [List.length_cons] at hj ⊢
      have hp := Lib.uvarint_pos (x / 128)
      match j, hj with
      | 0, _ =>
        have e : ((x % 128 + 128).toUInt8).toNat = x % 128 + 128 := Lib.toUInt8_toNat (by omega)
        simp only [List.getD_cons_zero, e]
        omega
      | j + 1, hj =>
        have := byte_last n (x / 128) (by omega) j (by omega)
        simp only [List.getD_cons_succ]
        omega

/-- The number of bytes, by the number of bits. -/
theorem length_bits (x k : Nat) (hlt : x < 2 ^ k) (hge : k = 0 ∨ 2 ^ (k - 1) ≤ x) : (Lib.uvarint x).length = if (k + 6) / 7 = 0 then 1 else (k + 6) / 7 := by
  by_cases hk : k = 0
  · subst hk
    have h0 : x = 0 := by simpa using hlt
    subst h0
    rw [Lib.uvarint_small (by omega)]
    rfl
  · obtain ⟨m, hm⟩ : ∃ m, (k + 6) / 7 = m + 1 := ⟨(k + 6) / 7 - 1, by omega⟩
    rw [if_neg (by omega), hm]
    have h7 : ∀ j, (128 : Nat) ^ j = 2 ^ (7 * j) := fun j => by rw [Nat.pow_mul]
    have hup : (Lib.uvarint x).length ≤ m + 1 := by
      refine Lib.uvarint_length m x (Nat.lt_of_lt_of_le hlt ?_)
      rw [h7]
      exact Nat.pow_le_pow_right (by omega) (by omega)
    have hlo : m + 1 ≤ (Lib.uvarint x).length := by
      refine length_ge m x (Nat.le_trans ?_ (hge.resolve_left hk))
      rw [h7]
      exact Nat.pow_le_pow_right (by omega) (by omega)
    omega

theorem getD_left {α : Type} (l r : List α) (j : Nat) (d : α) (h : j < l.length) : (l ++ r).getD j d = l.getD j d := by
  rw [List.getD_eq_getElem?_getD, List.getD_eq_getElem?_getD, List.getElem?_append_left h]
theorem getD_right {α : Type} (l r : List α) (j : Nat) (d : α) : (l ++ r).getD (l.length + j) d = r.getD j d := by
  rw [List.getD_eq_getElem?_getD, List.getD_eq_getElem?_getD, List.getElem?_append_right (by omega), Nat.add_sub_cancel_left]

end Go.Proofs.Qxb6614839a.Plain
