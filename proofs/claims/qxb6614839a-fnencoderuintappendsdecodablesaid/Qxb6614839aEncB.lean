/-
  THE ENCODER's FUNCTIONS BY THEIR CONTRACTS, II: (*encoder).uint (19), ZZencoderUint (14); zzUvarintLen (17).
-/
import Derived.Test.Qxb6614839aEnc
namespace Go.Proofs.Qxb6614839a
open Go.RowKit

theorem byteCells_append (l r : List UInt8) : Lib.byteCells (l ++ r) = Lib.byteCells l ++ Lib.byteCells r := by simp [Lib.byteCells]

/-- WHAT 'uint' LEAVES BEHIND. -/
def UintLeft (B b : Nat) (ao : Option Addr) (bs : List UInt8) (x : Nat) (w w' : World) : Prop :=
  ∃ ao' cap', Enc w' B b ao' cap' (bs ++ Lib.uvarint x) ∧ (∀ a, ao' = some a → ao = some a ∨ w.heap.size ≤ a.block) ∧
    Framed w w' (fun k => k = b ∨ ∃ a, ao = some a ∧ a.block = k)

theorem slice_of_own {w : World} {B : Nat} {v : Value} {n : Nat} {xs : List Value} (h : w.ownsRow B 5 1 v n xs) : ∃ ao cap, v = .slice ao n cap ∧ (∀ a, ao = some a → ∃ g, a = ⟨g, 0, none⟩) := by
  rcases h.2 with ⟨rfl, rfl⟩ | ⟨g, cap, cur, rfl, _⟩
  · exact ⟨none, 0, rfl, by simp⟩
  · exact ⟨some ⟨g, 0, none⟩, cap, rfl, by simp⟩

theorem ownBlock_slice (ao : Option Addr) (n cap k : Nat) : (Value.slice ao n cap).ownBlock = some k ↔ ∃ a, ao = some a ∧ a.block = k := by
  cases ao <;> simp [Value.ownBlock]

/-- The store of the new slice into the encoder's one cell. -/
theorem left_of (B b : Nat) (ao : Option Addr) (cap : Nat) (bs : List UInt8) (x : Nat) (w w1 : World) (hbB : b < B) (henc : Enc w B b ao cap bs) (ao' : Option Addr) (cap' : Nat)
    (hown : w1.ownsRow B 5 1 (.slice ao' (bs.length + (Lib.uvarint x).length) cap') (bs.length + (Lib.uvarint x).length) (Lib.byteCells bs ++ Lib.byteCells (Lib.uvarint x)))
    (hfr : Framed w w1 (fun k => (Value.slice ao bs.length cap).ownBlock = some k)) (hat : ∀ k, (Value.slice ao' (bs.length + (Lib.uvarint x).length) cap').ownBlock = some k → (Value.slice ao bs.length cap).ownBlock = some k ∨ w.heap.size ≤ k)
    (hao' : ∀ a, ao' = some a → ∃ g, a = ⟨g, 0, none⟩) :
    UintLeft B b ao bs x w (w1.setCell ⟨b, 0, none⟩ (.slice ao' (bs.length + (Lib.uvarint x).length) cap')) := by
  have hblt : b < w.heap.size := lt_of_block henc.blk
  have hb1 : w1.heap[b]? = some (.cells #[.slice ao bs.length cap] 45 (0, 0)) := by
    rw [hfr.block b hblt (fun e => by have := (henc.own.lt b e).1; omega)]
    exact henc.blk
  refine ⟨ao', cap', ⟨?_, ?_⟩, ?_, ?_⟩
  · rw [List.length_append]; exact one_setCell hb1
  · rw [List.length_append, byteCells_append]; exact ownsRow_setCell_below hown hbB _
  · intro a ha
    subst ha
    obtain ⟨g, rfl⟩ := hao' _ rfl
    rcases hat g rfl with h | h
    · obtain ⟨a, rfl, hg⟩ := (ownBlock_slice _ _ _ _).1 h
      rcases henc.own.2 with ⟨h', _⟩ | ⟨g', cap2, cur, h', _⟩
      · simp at h'
      · simp at h'
        obtain ⟨rfl, _⟩ := h'
        left; simp at hg; subst hg; rfl
    · right; exact h
  · exact (hfr.mono (fun k _ h => Or.inr ((ownBlock_slice _ _ _ _).1 h))).trans (Framed.setCell _ _ _ (Or.inl rfl))

set_option maxHeartbeats 400000 in
theorem uint_any (B b : Nat) (ao : Option Addr) (cap : Nat) (bs : List UInt8) (x : Nat) (hx : x < 18446744073709551616) (w : World) (hbB : b < B) (hBw : B ≤ w.heap.size) (henc : Enc w B b ao cap bs) (hlim : bs.length + 10 ≤ 140737488355328) :
    Calls Try.prog 19 #[.pointer (some ⟨b, 0, none⟩), .int .u64 x] w fun e w' => e = .returned (.tuple #[]) ∧ UintLeft B b ao bs x w w' := by
  have hc := cell_of_one henc.blk
  go_enter Try.func19, Try.ntmps19
  go_wp2_with fail
  refine (appendUvarint_any B bs.length x hx _ _ _ henc.own hBw hlim).mono ?_
  rintro e w1 ⟨v', rfl, hown, hfr, hat⟩
  obtain ⟨ao', cap', hv, hao'⟩ := slice_of_own hown
  rw [hv] at hown hat ⊢
  have hL := left_of B b ao cap bs x w w1 hbB henc ao' cap' hown hfr hat hao'
  have hfz : w1.frozen? ⟨b, 0, none⟩ = false := by
    rw [World.frozen?_of_block (w := w) (hfr.block b (lt_of_block henc.blk) (fun e => by have := (henc.own.lt b e).1; omega))]
    exact free_of_one henc.blk
  have hc1 : w1.cell? ⟨b, 0, none⟩ = some (.slice ao bs.length cap) := by
    rw [World.cell?_of_block (w := w) (hfr.block b (lt_of_block henc.blk) (fun e => by have := (henc.own.lt b e).1; omega))]
    exact hc
  clear hown hfr hat hao' hv hc henc
  go_wp2
  go_end0
  exact ⟨rfl, hL⟩

theorem encoderUint_any (B b : Nat) (ao : Option Addr) (cap : Nat) (bs : List UInt8) (x : Nat) (hx : x < 18446744073709551616) (w : World) (hbB : b < B) (hBw : B ≤ w.heap.size) (henc : Enc w B b ao cap bs) (hlim : bs.length + 10 ≤ 140737488355328) :
    Calls Try.prog 14 #[.pointer (some ⟨b, 0, none⟩), .int .u64 x] w fun e w' => e = .returned (.tuple #[]) ∧ UintLeft B b ao bs x w w' := by
  go_enter Try.func14, Try.ntmps14
  go_wp2_with fail
  refine (uint_any B b ao cap bs x hx _ hbB hBw henc hlim).mono ?_
  rintro e w1 ⟨rfl, hL⟩
  go_wp2
  go_end0
  exact ⟨rfl, hL⟩

theorem div_two_pow (x k : Nat) : x / 2 ^ k / 2 = x / 2 ^ (k + 1) := by rw [Nat.div_div_eq_div_mul, Nat.pow_succ]

set_option maxHeartbeats 400000 in
/-- zzUvarintLen gives the number of the varint's bytes. -/
theorem uvarintLen_any (x : Nat) (hx : x < 18446744073709551616) (w : World) :
    Calls Try.prog 17 #[.int .u64 x] w fun e w' => e = .returned (.int .i64 ((Lib.uvarint x).length : Nat)) ∧ w = w' := by
  go_enter Try.func17, Try.ntmps17
  go_wp2
  go_loop [3, 4] (fun bits y => ∃ k : Nat, k ≤ 64 ∧ bits = .int .i64 k ∧ y = .int .u64 ((x / 2 ^ k : Nat) : Int) ∧ (k = 0 ∨ 2 ^ (k - 1) ≤ x)) (fun _ y => (intOf y).toNat)
  case atStart => exact ⟨0, by omega, rfl, by simp, Or.inl rfl⟩
  case round =>
    obtain ⟨k, hk, rfl, rfl, hge⟩ := hrel
    obtain ⟨y, hy⟩ : ∃ y, x / 2 ^ k = y := ⟨_, rfl⟩
    have HY : Hid (x / 2 ^ k = y) := hy
    rw [hy]
    clear hy
    by_cases h0 : y = 0
    · subst h0
      have hlt : x < 2 ^ k := by
        have := HY.out
        rcases Nat.div_eq_zero_iff.1 this with h | h
        · exact absurd h (by have := Nat.one_le_two_pow (n := k); omega)
        · exact h
      have HL : Hid ((Lib.uvarint x).length = if (k + 6) / 7 = 0 then 1 else (k + 6) / 7) := Plain.length_bits x k hlt hge
      clear hlt hge HY
      by_cases hk0 : k = 0
      · subst hk0
        go_wp2
        go_ret
        exact ⟨by rw [HL.out]; rfl, rfl⟩
      · go_wp2
        go_ret
        refine ⟨?_, rfl⟩
        rw [HL.out, if_neg (by omega)]
        go_num
    · have hge' : 2 ^ (k + 1 - 1) ≤ x := by
        rw [Nat.add_sub_cancel]
        have h1 : 1 ≤ x / 2 ^ k := by have := HY.out; omega
        have := (Nat.le_div_iff_mul_le (Nat.two_pow_pos k)).1 h1
        omega
      have hk64 : k < 64 := by
        have h2 : 2 ^ k < 2 ^ 64 := Nat.lt_of_le_of_lt hge' hx
        exact (Nat.pow_lt_pow_iff_right (by omega)).1 h2
      have hne : ((y : Int) != 0) = true := by rw [bne_iff_ne]; omega
      have HG : Hid (2 ^ (k + 1 - 1) ≤ x) := hge'
      clear hge hge'
      go_wp2
      go_round
      case rel => exact ⟨k + 1, by omega, by go_num, by rw [← div_two_pow, HY.out]; go_num, Or.inr HG.out⟩
      case measure => simp [intOf]; omega

end Go.Proofs.Qxb6614839a
