/-
  THE WALK OF FnEncoderUintConcatenatesWithMinimalLength (5).
-/
import Derived.Test.Qxb6614839aEncB
import Derived.Deep.QuietTactic
import Derived.BigQuiet
import Derived.Outline
namespace Go.Proofs.Qxb6614839a
open Go.RowKit

theorem Enc.kept {w w' : World} {B b : Nat} {ao : Option Addr} {cap : Nat} {bs : List UInt8} (h : Enc w B b ao cap bs) (hb : Below w.heap.size w w') : Enc w' B b ao cap bs := by
  refine ⟨(hb.block b (lt_of_block h.blk)).trans h.blk, h.own.1, ?_⟩
  rcases h.own.2 with h2 | ⟨g, cap', cur, hv, hg, hh, r⟩
  · exact Or.inl h2
  · exact Or.inr ⟨g, cap', cur, hv, hg, (hb.block g (lt_of_block hh)).trans hh, r⟩

theorem draws_below {B : Nat} {a w : World} (h : Below B a w) (n : Nat) : Below B a (w.drewN n) := h.trans ⟨rfl, rfl, rfl, Nat.le_refl _, fun _ _ => rfl⟩

/-- A fresh encoder over the nil slice. -/
theorem Enc.fresh (w : World) : Enc (w.alloc (.cells #[.slice none 0 0] 45)) (w.heap.size + 1) w.heap.size none 0 [] :=
  ⟨heap_alloc_new w _, World.ownsRow_nil _ _ _ _⟩

/-- One 'uint' of an encoder whose rows lie behind its own block: below that block nothing has turned. -/
theorem UintLeft.below {b : Nat} {ao : Option Addr} {cap : Nat} {bs : List UInt8} {x : Nat} {w w' : World} (h : UintLeft (b + 1) b ao bs x w w') (henc : Enc w (b + 1) b ao cap bs) :
    Below b w w' ∧ ∃ ao' cap', Enc w' (b + 1) b ao' cap' (bs ++ Lib.uvarint x) := by
  obtain ⟨ao', cap', henc', _, hfr⟩ := h
  refine ⟨hfr.below (Nat.le_of_lt (lt_of_block henc.blk)) ?_, ao', cap', henc'⟩
  rintro k _ (rfl | ⟨a, ha, rfl⟩)
  · exact Nat.le_refl _
  · have := (henc.own.lt a.block (by rw [ha]; rfl)).1
    omega

/-- WHERE AN ENCODER's BYTES LIE. -/
theorem Enc.cells {w : World} {B b : Nat} {ao : Option Addr} {cap : Nat} {bs : List UInt8} (h : Enc w B b ao cap bs) (hpos : 0 < bs.length) :
    ∃ g, ao = some ⟨g, 0, none⟩ ∧ ∀ j, j < bs.length → w.cell? ⟨g, j, none⟩ = some (.int .u8 ((bs.getD j 0).toNat : Nat)) := by
  rcases h.own.2 with ⟨h', h0⟩ | ⟨g, cap', cur, h', _⟩
  · omega
  · simp at h'
    obtain ⟨rfl, rfl⟩ := h'
    refine ⟨g, rfl, fun j hj => ?_⟩
    rw [h.own.cellAt j (by omega)]
    simp [Lib.byteCells, List.getElem?_map, List.getElem?_eq_getElem hj, List.getD_eq_getElem?_getD]

set_option maxHeartbeats 1000000 in
set_option maxRecDepth 100000 in
theorem concat_walk (a v : Nat) (ha : a < 18446744073709551616) (hv : v < 18446744073709551616) (w : World) :
    Calls Try.prog 5 #[.int .u64 a, .int .u64 v] w fun e w' => e = .returned (.bool true) ∧ Below w.heap.size w w' := by
  have la := Lib.uvarint_length64 ha
  have lv := Lib.uvarint_length64 hv
  have pa := Lib.uvarint_pos a
  have pv := Lib.uvarint_pos v
  go_enter Try.func5, Try.ntmps5
  go_wp2_with fail
  refine (newEncoder_any _ _ _ _).mono ?_
  rintro e w1 ⟨rfl, rfl⟩
  go_wp2_with fail
  refine (encoderUint_any (w.heap.size + 1) w.heap.size none 0 [] a ha _ (by omega) (by simp) (Enc.fresh w) (by simp)).mono ?_
  rintro e w1 ⟨rfl, hL1⟩
  obtain ⟨hb1, ao1, cap1, he1⟩ := hL1.below (Enc.fresh w)
  clear hL1
  go_wp2_with fail
  refine (encoderUint_any (w.heap.size + 1) w.heap.size ao1 cap1 _ v hv _ (by omega) (by have := lt_of_block he1.blk; omega) he1 (by simp; omega)).mono ?_
  rintro e w2 ⟨rfl, hL2⟩
  obtain ⟨hb2, ao2, cap2, he2⟩ := hL2.below he1
  have hB2 : Below w.heap.size w w2 := ((Below.refl _ _).alloc (Nat.le_refl _) _).trans (hb1.trans hb2)
  clear hL2 he1 hb1 hb2 ao1 cap1 w1
  go_wp2_with fail
  refine (newEncoder_any _ _ _ _).mono ?_
  rintro e w3 ⟨rfl, rfl⟩
  go_wp2_with fail
  refine (encoderUint_any (w2.heap.size + 1) w2.heap.size none 0 [] a ha _ (by omega) (by simp) (Enc.fresh w2) (by simp)).mono ?_
  rintro e w4 ⟨rfl, hL4⟩
  obtain ⟨hb4, ao4, cap4, he4⟩ := hL4.below (Enc.fresh w2)
  have hb24 : Below w2.heap.size w2 w4 := ((Below.refl _ _).alloc (Nat.le_refl _) _).trans hb4
  have he2' := he2.kept hb24
  have hB4 : Below w.heap.size w w4 := hB2.trans (hb24.mono hB2.size)
  clear hL4 hb4 he2 hb24 hB2
  go_wp2_with fail
  refine (newEncoder_any _ _ _ _).mono ?_
  rintro e w5 ⟨rfl, rfl⟩
  go_wp2_with fail
  refine (encoderUint_any (w4.heap.size + 1) w4.heap.size none 0 [] v hv _ (by omega) (by simp) (Enc.fresh w4) (by simp)).mono ?_
  rintro e w6 ⟨rfl, hL6⟩
  obtain ⟨hb6, ao6, cap6, he6⟩ := hL6.below (Enc.fresh w4)
  have hb46 : Below w4.heap.size w4 w6 := ((Below.refl _ _).alloc (Nat.le_refl _) _).trans hb6
  have hx2 := he2'.kept hb46
  have hx4 := he4.kept hb46
  have hB6 : Below w.heap.size w w6 := hB4.trans (hb46.mono hB4.size)
  clear hL6 hb6 he2' he4 hb46 hB4
  go_wp2_with fail
  refine (encoderBytes_any _ _ _ hx2.blk).mono ?_
  rintro e w7 ⟨rfl, rfl⟩
  go_wp2_with fail
  refine (encoderBytes_any _ _ _ hx4.blk).mono ?_
  rintro e w7' ⟨rfl, rfl⟩
  go_wp2_with fail
  refine (encoderBytes_any _ _ _ he6.blk).mono ?_
  rintro e w7' ⟨rfl, rfl⟩
  simp only [List.nil_append] at hx2 hx4 he6 ⊢
  obtain ⟨g1, rfl, c1⟩ := hx2.cells (by simp; omega)
  obtain ⟨g2, rfl, c2⟩ := hx4.cells (by omega)
  obtain ⟨g3, rfl, c3⟩ := he6.cells (by omega)
  clear hx2 hx4 he6
  -- THE BYTES AS NUMBERS, AND WHAT IS KNOWN OF THEM
  have HA : Hid (∀ W, Calls Try.prog 17 #[.int .u64 a] W fun e w' => e = .returned (.int .i64 ((Lib.uvarint a).length : Nat)) ∧ W = w') := fun W => uvarintLen_any a ha W
  have HV : Hid (∀ W, Calls Try.prog 17 #[.int .u64 v] W fun e w' => e = .returned (.int .i64 ((Lib.uvarint v).length : Nat)) ∧ W = w') := fun W => uvarintLen_any v hv W
  have hmono : ¬ v < a → (Lib.uvarint a).length ≤ (Lib.uvarint v).length := fun h => Plain.length_mono a a (Nat.le_refl _) v (by omega)
  obtain ⟨f1, hf1⟩ : ∃ f : Nat → Int, ∀ j, (((Lib.uvarint a ++ Lib.uvarint v).getD j 0).toNat : Int) = f j := ⟨_, fun _ => rfl⟩
  obtain ⟨f2, hf2⟩ : ∃ f : Nat → Int, ∀ j, (((Lib.uvarint a).getD j 0).toNat : Int) = f j := ⟨_, fun _ => rfl⟩
  obtain ⟨f3, hf3⟩ : ∃ f : Nat → Int, ∀ j, (((Lib.uvarint v).getD j 0).toNat : Int) = f j := ⟨_, fun _ => rfl⟩
  have H12 : Hid (∀ j, j < (Lib.uvarint a).length → f1 j = f2 j) := fun j hj => by
    rw [← hf1, ← hf2, Plain.getD_left _ _ _ _ hj]
  have H13 : Hid (∀ j, f1 ((Lib.uvarint a).length + j) = f3 j) := fun j => by
    rw [← hf1, ← hf3, Plain.getD_right]
  have H3 : Hid (∀ j, j < (Lib.uvarint v).length → (f3 j < 128 ↔ j + 1 = (Lib.uvarint v).length)) := fun j hj => by
    rw [← hf3, ← Plain.byte_last v v (Nat.le_refl _) j hj]
    omega
  have C1 : Hid (∀ j, j < (Lib.uvarint a).length + (Lib.uvarint v).length → w6.cell? ⟨g1, j, none⟩ = some (.int .u8 (f1 j))) := fun j hj => by
    rw [c1 j (by rw [List.length_append]; exact hj), hf1]
  have C2 : Hid (∀ j, j < (Lib.uvarint a).length → w6.cell? ⟨g2, j, none⟩ = some (.int .u8 (f2 j))) := fun j hj => by
    rw [c2 j hj, hf2]
  have C3 : Hid (∀ j, j < (Lib.uvarint v).length → w6.cell? ⟨g3, j, none⟩ = some (.int .u8 (f3 j))) := fun j hj => by
    rw [c3 j hj, hf3]
  clear c1 c2 c3 hf1 hf2 hf3
  generalize (Lib.uvarint a).length = n2 at *
  generalize (Lib.uvarint v).length = n3 at *
  go_wp2
  go_loopw [11] (fun i wr => ∃ k n : Nat, k ≤ n2 ∧ i = .int .i64 k ∧ wr = w6.drewN n) (fun i _ => n2 - (intOf i).toNat)
  case atStart => exact ⟨0, 0, by omega, rfl, rfl⟩
  case round =>
    obtain ⟨k, n, hk, rfl, rfl⟩ := hrel
    by_cases hlt : k < n2
    · have a1 := C1.out k (by omega)
      have a2 := C2.out k hlt
      rw [H12.out k hlt] at a1
      have b1 : (k : Int) < ((n2 + n3 : Nat) : Int) := by omega
      have b2 : (k : Int) < (n2 : Int) := by omega
      go_wp2
      go_quiet (fail)
      go_wp2
      go_roundw
      case rel => exact ⟨k + 1, _, by omega, by go_num, rfl⟩
      case measure => simp [intOf]; omega
    · go_wp2
      go_loopw [12] (fun i wr => ∃ k n : Nat, k ≤ n3 ∧ i = .int .i64 k ∧ wr = w6.drewN n) (fun i _ => n3 - (intOf i).toNat)
      case atStart => exact ⟨0, n, by omega, rfl, rfl⟩
      case round =>
        obtain ⟨k2, m, hk2, rfl, rfl⟩ := hrel
        by_cases hlt2 : k2 < n3
        · have a1 := C1.out (n2 + k2) (by omega)
          have a2 := C3.out k2 hlt2
          rw [H13.out k2] at a1
          have b1 : (n2 : Int) + (k2 : Int) < ((n2 + n3 : Nat) : Int) := by omega
          have b2 : (k2 : Int) < (n3 : Int) := by omega
          go_wp2
          go_quiet (fail)
          go_wp2
          go_roundw
          case rel => exact ⟨k2 + 1, _, by omega, by go_num, rfl⟩
          case measure => simp [intOf]; omega
        · go_wp2_with fail
          refine (HA.out _).mono ?_
          rintro e w7 ⟨rfl, rfl⟩
          go_wp2_with fail
          refine (HV.out _).mono ?_
          rintro e w7 ⟨rfl, rfl⟩
          go_wp2
          go_loop [13, 14] (fun i _ => ∃ k : Nat, k ≤ n3 ∧ i = .int .i64 k) (fun i _ => n3 - (intOf i).toNat)
          case atStart => exact ⟨0, by omega, rfl⟩
          case round =>
            obtain ⟨k3, hk3, rfl⟩ := hrel
            by_cases hlt3 : k3 < n3
            · have a2 := C3.out k3 hlt3
              have h3 := H3.out k3 hlt3
              have b2 : (k3 : Int) < (n3 : Int) := by omega
              by_cases hl : k3 + 1 = n3
              · have hs : f3 k3 < 128 := h3.2 hl
                have ht : ((k3 : Int) == (n3 : Int) - 1) = true := by rw [beq_iff_eq]; omega
                have HL : Hid (k3 + 1 = n3) := hl
                clear h3 hl
                go_wp2
                go_round
                case rel => exact ⟨k3 + 1, by omega, by go_num⟩
                case measure => simp [intOf]; omega
              · have hs : ¬ f3 k3 < 128 := fun h => hl (h3.1 h)
                have ht : ((k3 : Int) == (n3 : Int) - 1) = false := by rw [beq_eq_false_iff_ne]; omega
                clear h3 hl
                go_wp2
                go_round
                case rel => exact ⟨k3 + 1, by omega, by go_num⟩
                case measure => simp [intOf]; omega
            · by_cases hva : v < a
              · go_wp2
                go_ret
                exact ⟨rfl, draws_below hB6 _⟩
              · have hm := hmono hva
                go_wp2
                go_ret
                exact ⟨rfl, draws_below hB6 _⟩

#print axioms concat_walk
end Go.Proofs.Qxb6614839a
