/-
  THE WALK OF FnEncoderUintAppendsDecodable (4).
-/
import Derived.Test.Qxb6614839aEncC
import Derived.Test.Qxb6614839aRead
import Derived.Deep.QuietTactic
import Derived.BigQuiet
import Derived.Outline
namespace Go.Proofs.Qxb6614839a
open Go.RowKit

theorem draws_below' {B : Nat} {a w : World} (h : Below B a w) (n : Nat) : Below B a (w.drewN n) := h.trans ⟨rfl, rfl, rfl, Nat.le_refl _, fun _ _ => rfl⟩

theorem bytes12_yes (ao : Option Addr) (len cap : Nat) (x y : Int) (w : World) (h : len ≤ 1048576) : Calls Try.prog 12 #[.slice ao len cap, .int .u64 x, .int .u64 y] w fun e w' => e = .returned (.bool true) ∧ w = w' := by
  go_enter Try.func12, Try.ntmps12
  go_wp2
  go_ret
  exact ⟨rfl, rfl⟩
theorem bytes12_no (ao : Option Addr) (len cap : Nat) (x y : Int) (w : World) (h : 1048576 < len) : Calls Try.prog 12 #[.slice ao len cap, .int .u64 x, .int .u64 y] w fun e w' => e = .returned (.bool false) ∧ w = w' := by
  go_enter Try.func12, Try.ntmps12
  go_wp2
  go_ret
  exact ⟨rfl, rfl⟩

theorem dec_big (ao : Option Addr) (len cap : Nat) (x y : Int) (w : World) (h : 1048576 < len) : Calls Try.prog 4 #[.slice ao len cap, .int .u64 x, .int .u64 y] w fun e w' => e = .returned (.bool true) ∧ Below w.heap.size w w' := by
  go_enter Try.func4, Try.ntmps4
  go_wp2_with fail
  refine (bytes12_no _ _ _ _ _ _ h).mono ?_
  rintro e w1 ⟨rfl, rfl⟩
  go_wp2
  go_ret
  exact ⟨rfl, Below.refl _ _⟩

/-- THE ROW OF A SLICE, IN A LATER WORLD, where only other blocks have turned. -/
theorem own_framed {w w' : World} {B : Nat} {v : Value} {n : Nat} {xs : List Value} {F : Nat → Prop} (h : w.ownsRow B 5 1 v n xs) (hf : Framed w w' F) (hF : ∀ k, v.ownBlock = some k → ¬ F k) : w'.ownsRow B 5 1 v n xs := by
  refine ⟨h.1, ?_⟩
  rcases h.2 with h2 | ⟨g, cap', cur, rfl, hg, hh, r⟩
  · exact Or.inl h2
  · exact Or.inr ⟨g, cap', cur, rfl, hg, (hf.block g (lt_of_block hh) (hF g rfl)).trans hh, r⟩

/-- ONE 'uint' MORE, the slice kept aside standing. -/
theorem keep_step {w w' : World} {B B2 b : Nat} {ao : Option Addr} {cap : Nat} {bs : List UInt8} {x : Nat} {v2 : Value} {n : Nat} {xs : List Value} {w0 : World} {N : Nat} (hL : UintLeft B b ao bs x w w') (henc : Enc w B b ao cap bs)
    (hown : w.ownsRow B2 5 1 v2 n xs) (hsep : ∀ k, v2.ownBlock = some k → k ≠ b ∧ ∀ a, ao = some a → a.block ≠ k) (hb : Below N w0 w) (hNb : N ≤ b) (hNB : N ≤ B) (hN : N ≤ w.heap.size) :
    ∃ ao' cap', Enc w' B b ao' cap' (bs ++ Lib.uvarint x) ∧ w'.ownsRow B2 5 1 v2 n xs ∧ (∀ k, v2.ownBlock = some k → k ≠ b ∧ ∀ a, ao' = some a → a.block ≠ k) ∧ Below N w0 w' := by
  obtain ⟨ao', cap', henc', hat, hfr⟩ := hL
  refine ⟨ao', cap', henc', own_framed hown hfr ?_, ?_, hb.trans (hfr.below hN ?_)⟩
  · rintro k hk (rfl | ⟨a, ha, rfl⟩)
    · exact (hsep _ hk).1 rfl
    · exact (hsep _ hk).2 a ha rfl
  · intro k hk
    refine ⟨(hsep k hk).1, fun a ha e => ?_⟩
    rcases hat a ha with h | h
    · exact (hsep k hk).2 a h e
    · have := (hown.lt k hk).2
      omega
  · rintro k _ (rfl | ⟨a, ha, rfl⟩)
    · exact hNb
    · have := (henc.own.lt a.block (by rw [ha]; rfl)).1
      omega

/-- The bytes of a slice that is owned. -/
theorem own_cells {w : World} {B : Nat} {ao : Option Addr} {cap : Nat} {bs : List UInt8} (h : w.ownsRow B 5 1 (.slice ao bs.length cap) bs.length (Lib.byteCells bs)) :
    ∃ g, (0 < bs.length → ao = some ⟨g, 0, none⟩) ∧ ∀ j, j < bs.length → w.cell? ⟨g, j, none⟩ = some (.int .u8 ((bs.getD j 0).toNat : Nat)) := by
  rcases h.2 with ⟨h', h0⟩ | ⟨g, cap', cur, h', _⟩
  · exact ⟨0, fun h => by omega, fun j hj => by omega⟩
  · simp at h'
    obtain ⟨rfl, rfl⟩ := h'
    refine ⟨g, fun _ => rfl, fun j hj => ?_⟩
    rw [h.cellAt j (by omega)]
    simp [Lib.byteCells, List.getElem?_map, List.getElem?_eq_getElem hj, List.getD_eq_getElem?_getD]

set_option maxHeartbeats 1000000 in
set_option maxRecDepth 100000 in
theorem dec_walk (ao : Option Addr) (cap : Nat) (bs : List UInt8) (a v : Nat) (ha : a < 18446744073709551616) (hv : v < 18446744073709551616) (w : World) (hlen : bs.length ≤ 1048576) (hrow : Row8 w ao cap bs) :
    Calls Try.prog 4 #[.slice ao bs.length cap, .int .u64 a, .int .u64 v] w fun e w' => e = .returned (.bool true) ∧ Below w.heap.size w w' := by
  have la := Lib.uvarint_length64 ha
  have lv := Lib.uvarint_length64 hv
  have pa := Lib.uvarint_pos a
  have pv := Lib.uvarint_pos v
  go_enter Try.func4, Try.ntmps4
  go_wp2_with fail
  refine (bytes12_yes _ _ _ _ _ _ hlen).mono ?_
  rintro e w1 ⟨rfl, rfl⟩
  go_wp2_with fail
  refine (clone_row ao cap bs w hlen hrow).mono ?_
  rintro e w1 ⟨ao1, cap1, rfl, own1, hb1⟩
  clear hrow
  go_wp2_with fail
  refine (clone_row ao1 cap1 bs w1 hlen (Row8.of_own own1)).mono ?_
  rintro e w2 ⟨ao2, cap2, rfl, own2, hb2⟩
  -- the first clone's row lies below the second's
  have own1' : w2.ownsRow w.heap.size 5 1 (.slice ao1 bs.length cap1) bs.length (Lib.byteCells bs) := by
    refine ⟨own1.1, ?_⟩
    rcases own1.2 with h2 | ⟨g, cap', cur, h', hg, hh, r⟩
    · exact Or.inl h2
    · exact Or.inr ⟨g, cap', cur, h', hg, (hb2.block g (lt_of_block hh)).trans hh, r⟩
  have lt1 : ∀ k, (Value.slice ao1 bs.length cap1).ownBlock = some k → k < w1.heap.size := fun k hk => (own1.lt k hk).2
  have hB2 : Below w.heap.size w w2 := hb1.trans (hb2.mono hb1.size)
  clear own1 hb1 hb2
  go_wp2_with fail
  refine (newEncoder_any _ _ _ _).mono ?_
  rintro e w3 ⟨rfl, rfl⟩
  have henc : Enc (w2.alloc (.cells #[.slice ao1 bs.length cap1] 45)) w.heap.size w2.heap.size ao1 cap1 bs := ⟨heap_alloc_new w2 _, own1'.alloc _⟩
  have own2' := own2.alloc (.cells #[.slice ao1 bs.length cap1] 45)
  have hB3 : Below w.heap.size w (w2.alloc (.cells #[.slice ao1 bs.length cap1] 45)) := hB2.alloc hB2.size _
  have hsep : ∀ k, (Value.slice ao2 bs.length cap2).ownBlock = some k → k ≠ w2.heap.size ∧ ∀ a, ao1 = some a → a.block ≠ k := by
    intro k hk
    have h2 := own2.lt k hk
    refine ⟨by omega, fun a ha e => ?_⟩
    have := lt1 a.block (by rw [ha]; rfl)
    omega
  have hz2 : w.heap.size ≤ w2.heap.size := hB2.size
  clear own1' own2 lt1 hB2
  go_wp2_with fail
  refine (encoderUint_any' w.heap.size w2.heap.size ao1 cap1 bs a ha _ hB3.size henc (by omega)).mono ?_
  rintro e w4 ⟨rfl, hL4⟩
  obtain ⟨ao4, cap4, henc4, own4, hsep4, hB4⟩ := keep_step hL4 henc own2' hsep hB3 hz2 (Nat.le_refl _) hB3.size
  clear hL4 henc own2' hsep hB3
  go_wp2_with fail
  refine (encoderUint_any' w.heap.size w2.heap.size ao4 cap4 (bs ++ Lib.uvarint a) v hv _ hB4.size henc4 (by simp; omega)).mono ?_
  rintro e w5 ⟨rfl, hL5⟩
  obtain ⟨ao5, cap5, henc5, own5, _, hB5⟩ := keep_step hL5 henc4 own4 hsep4 hB4 hz2 (Nat.le_refl _) hB4.size
  clear hL5 henc4 own4 hsep4 hB4
  go_wp2_with fail
  refine (encoderBytes_any _ _ _ henc5.blk).mono ?_
  rintro e w6 ⟨rfl, rfl⟩
  obtain ⟨g, hg, hcell⟩ := own_cells henc5.own
  obtain ⟨g2, hg2, hcell2⟩ := own_cells own5
  have hg := hg (by simp; omega)
  subst hg
  clear henc5 own5
  -- THE THREE PARTS OF out
  have C1 : Hid (∀ j, j < bs.length → w5.cell? ⟨g, j, none⟩ = some (.int .u8 ((bs.getD j 0).toNat : Nat))) := fun j hj => by
    rw [hcell j (by simp; omega), List.append_assoc, Plain.getD_left _ _ _ _ hj]
  have CA : Hid (∀ j, j < (Lib.uvarint a).length → w5.cell? ⟨g, bs.length + j, none⟩ = some (.int .u8 (((Lib.uvarint a).getD j 0).toNat : Nat))) := fun j hj => by
    rw [hcell (bs.length + j) (by simp; omega), List.append_assoc, Plain.getD_right, Plain.getD_left _ _ _ _ hj]
  have CV : Hid (∀ j, j < (Lib.uvarint v).length → w5.cell? ⟨g, bs.length + (Lib.uvarint a).length + j, none⟩ = some (.int .u8 (((Lib.uvarint v).getD j 0).toNat : Nat))) := fun j hj => by
    rw [hcell (bs.length + (Lib.uvarint a).length + j) (by simp; omega), ← List.length_append, Plain.getD_right]
  have C2 : Hid (∀ j, j < bs.length → w5.cell? ⟨g2, j, none⟩ = some (.int .u8 ((bs.getD j 0).toNat : Nat))) := hcell2
  have G2 : Hid (0 < bs.length → ao2 = some ⟨g2, 0, none⟩) := hg2
  clear hcell hcell2 hg2
  simp only [List.length_append]
  go_wp2
  go_loopw [10] (fun i wr => ∃ k n : Nat, k ≤ bs.length ∧ i = .int .i64 k ∧ wr = w5.drewN n) (fun i _ => bs.length - (intOf i).toNat)
  case atStart => exact ⟨0, 0, by omega, rfl, rfl⟩
  case round =>
    obtain ⟨k, n, hk, rfl, rfl⟩ := hrel
    by_cases hlt : k < bs.length
    · have hg2 := G2.out (by omega)
      subst hg2
      have a1 := C1.out k hlt
      have a2 := C2.out k hlt
      have b1 : (k : Int) < ((bs.length + (Lib.uvarint a).length + (Lib.uvarint v).length : Nat) : Int) := by omega
      have b2 : (k : Int) < (bs.length : Int) := by omega
      go_wp2
      go_quiet (fail)
      go_wp2
      go_roundw
      case rel => exact ⟨k + 1, _, by omega, by go_num, rfl⟩
      case measure => simp [intOf]; omega
    · go_wp2_with fail
      refine (read_any g (bs.length + (Lib.uvarint a).length + (Lib.uvarint v).length) cap5 bs.length a ha (w5.drewN n) (by omega) (by omega) (fun j hj => CA.out j hj)).mono ?_
      rintro e w7 ⟨rfl, rfl⟩
      go_wp2_with fail
      rw [show ((bs.length : Int) + ((Lib.uvarint a).length : Int)) = ((bs.length + (Lib.uvarint a).length : Nat) : Int) from by omega]
      refine (read_any g (bs.length + (Lib.uvarint a).length + (Lib.uvarint v).length) cap5 (bs.length + (Lib.uvarint a).length) v hv (w5.drewN n) (by omega) (by omega) (fun j hj => CV.out j hj)).mono ?_
      rintro e w7 ⟨rfl, rfl⟩
      go_wp2
      go_ret
      exact ⟨by simp, draws_below' hB5 _⟩

#print axioms dec_walk
end Go.Proofs.Qxb6614839a
