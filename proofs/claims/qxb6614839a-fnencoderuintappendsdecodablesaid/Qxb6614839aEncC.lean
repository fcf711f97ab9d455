/-
  THE ENCODER's FUNCTIONS BY THEIR CONTRACTS, III: the encoder's row may lie ahead of the encoder's own block; zzCloneBytes for whatever slice.
-/
import Derived.Test.Qxb6614839aClone
namespace Go.Proofs.Qxb6614839a
open Go.RowKit

theorem Enc.apart {w : World} {B b : Nat} {ao : Option Addr} {cap : Nat} {bs : List UInt8} (h : Enc w B b ao cap bs) : ¬ (Value.slice ao bs.length cap).ownBlock = some b := by
  intro e
  rcases h.own.2 with ⟨h', _⟩ | ⟨g, cap', cur, h', _, hg, _⟩
  · rw [h'] at e; simp [Value.ownBlock] at e
  · rw [h'] at e; simp [Value.ownBlock] at e
    subst e
    have := h.blk
    rw [hg] at this
    simp at this

theorem left_of' (B b : Nat) (ao : Option Addr) (cap : Nat) (bs : List UInt8) (x : Nat) (w w1 : World) (henc : Enc w B b ao cap bs) (ao' : Option Addr) (cap' : Nat)
    (hown : w1.ownsRow B 5 1 (.slice ao' (bs.length + (Lib.uvarint x).length) cap') (bs.length + (Lib.uvarint x).length) (Lib.byteCells bs ++ Lib.byteCells (Lib.uvarint x)))
    (hfr : Framed w w1 (fun k => (Value.slice ao bs.length cap).ownBlock = some k)) (hat : ∀ k, (Value.slice ao' (bs.length + (Lib.uvarint x).length) cap').ownBlock = some k → (Value.slice ao bs.length cap).ownBlock = some k ∨ w.heap.size ≤ k)
    (hao' : ∀ a, ao' = some a → ∃ g, a = ⟨g, 0, none⟩) :
    UintLeft B b ao bs x w (w1.setCell ⟨b, 0, none⟩ (.slice ao' (bs.length + (Lib.uvarint x).length) cap')) := by
  have hblt : b < w.heap.size := lt_of_block henc.blk
  have hb1 : w1.heap[b]? = some (.cells #[.slice ao bs.length cap] 45 (0, 0)) := by
    rw [hfr.block b hblt henc.apart]
    exact henc.blk
  refine ⟨ao', cap', ⟨?_, ?_⟩, ?_, ?_⟩
  · rw [List.length_append]; exact one_setCell hb1
  · rw [List.length_append, byteCells_append]; exact ownsRow_setCell_other hown (fun e => (hat b e).elim henc.apart (by omega)) _
  · intro a ha
    subst ha
    obtain ⟨g, rfl⟩ := hao' _ rfl
    rcases hat g rfl with h | h
    · obtain ⟨a, rfl, hg⟩ := (ownBlock_slice _ _ _ _).1 h
      rcases henc.own.2 with ⟨h', _⟩ | ⟨g', cap2, cur, h', _⟩
      · simp at h'
      · simp at h'
        obtain ⟨rfl, _⟩ := h'
        left; simp at hg; subst hg; rfl
    · right; exact h
  · exact (hfr.mono (fun k _ h => Or.inr ((ownBlock_slice _ _ _ _).1 h))).trans (Framed.setCell _ _ _ (Or.inl rfl))

set_option maxHeartbeats 400000 in
theorem uint_any' (B b : Nat) (ao : Option Addr) (cap : Nat) (bs : List UInt8) (x : Nat) (hx : x < 18446744073709551616) (w : World) (hBw : B ≤ w.heap.size) (henc : Enc w B b ao cap bs) (hlim : bs.length + 10 ≤ 140737488355328) :
    Calls Try.prog 19 #[.pointer (some ⟨b, 0, none⟩), .int .u64 x] w fun e w' => e = .returned (.tuple #[]) ∧ UintLeft B b ao bs x w w' := by
  have hc := cell_of_one henc.blk
  go_enter Try.func19, Try.ntmps19
  go_wp2_with fail
  refine (appendUvarint_any B bs.length x hx _ _ _ henc.own hBw hlim).mono ?_
  rintro e w1 ⟨v', rfl, hown, hfr, hat⟩
  obtain ⟨ao', cap', hv, hao'⟩ := slice_of_own hown
  rw [hv] at hown hat ⊢
  have hL := left_of' B b ao cap bs x w w1 henc ao' cap' hown hfr hat hao'
  have hfz : w1.frozen? ⟨b, 0, none⟩ = false := by
    rw [World.frozen?_of_block (w := w) (hfr.block b (lt_of_block henc.blk) henc.apart)]
    exact free_of_one henc.blk
  have hc1 : w1.cell? ⟨b, 0, none⟩ = some (.slice ao bs.length cap) := by
    rw [World.cell?_of_block (w := w) (hfr.block b (lt_of_block henc.blk) henc.apart)]
    exact hc
  clear hown hfr hat hao' hv hc henc
  go_wp2
  go_end0
  exact ⟨rfl, hL⟩

theorem encoderUint_any' (B b : Nat) (ao : Option Addr) (cap : Nat) (bs : List UInt8) (x : Nat) (hx : x < 18446744073709551616) (w : World) (hBw : B ≤ w.heap.size) (henc : Enc w B b ao cap bs) (hlim : bs.length + 10 ≤ 140737488355328) :
    Calls Try.prog 14 #[.pointer (some ⟨b, 0, none⟩), .int .u64 x] w fun e w' => e = .returned (.tuple #[]) ∧ UintLeft B b ao bs x w w' := by
  go_enter Try.func14, Try.ntmps14
  go_wp2_with fail
  refine (uint_any' B b ao cap bs x hx _ hBw henc hlim).mono ?_
  rintro e w1 ⟨rfl, hL⟩
  go_wp2
  go_end0
  exact ⟨rfl, hL⟩

/-- A SLICE OF BYTES AS IT CAME IN: nil, or its bytes lie in a row. -/
def Row8 (w : World) (ao : Option Addr) (cap : Nat) (bs : List UInt8) : Prop :=
  (ao = none ∧ bs = [] ∧ cap = 0) ∨
  ∃ x b off, ao = some x ∧ (0 < bs.length → x = ⟨b, off, none⟩ ∧ b < w.heap.size) ∧ ∀ i, i < bs.length → w.cell? ⟨b, off + i, none⟩ = some (.int .u8 ((bs.getD i 0).toNat : Nat))

theorem getD_map_nat (bs : List UInt8) (i : Nat) : (bs.map (fun b => (b.toNat : Int))).getD i 0 = ((bs.getD i 0).toNat : Nat) := by
  simp only [List.getD_eq_getElem?_getD, List.getElem?_map]
  cases bs[i]? <;> rfl

theorem clone_row (ao : Option Addr) (cap : Nat) (bs : List UInt8) (w : World) (hlen : bs.length ≤ 1048576) (h : Row8 w ao cap bs) :
    Calls Try.prog 7 #[.slice ao bs.length cap] w fun e w' => ∃ ao' cap', e = .returned (.slice ao' bs.length cap') ∧ w'.ownsRow w.heap.size 5 1 (.slice ao' bs.length cap') bs.length (Lib.byteCells bs) ∧ Below w.heap.size w w' := by
  rcases h with ⟨rfl, rfl, rfl⟩ | ⟨x, b, off, rfl, hx, hc⟩
  · refine (clone_nil w).mono ?_
    rintro e w' ⟨rfl, rfl⟩
    exact ⟨none, 0, rfl, World.ownsRow_nil _ _ _ _, Below.refl _ _⟩
  · refine (clone_plain b off bs.length cap (bs.map (fun b => (b.toNat : Int))) w hlen (by simp) (fun h => (hx h).2) (fun i hi => by rw [hc i hi, getD_map_nat]) x (fun h => (hx h).1)).mono ?_
    rintro e w' ⟨rfl, hown, hb⟩
    refine ⟨_, _, rfl, ?_, hb⟩
    have e : ((bs.map (fun b => (b.toNat : Int))).take bs.length).map (Value.int .u8) = Lib.byteCells bs := by
      rw [List.take_of_length_le (by simp)]
      simp [Lib.byteCells]
    rw [e] at hown
    exact hown

/-- What the call owns can be read. -/
theorem Row8.of_own {w : World} {B : Nat} {ao : Option Addr} {cap : Nat} {bs : List UInt8} (h : w.ownsRow B 5 1 (.slice ao bs.length cap) bs.length (Lib.byteCells bs)) : Row8 w ao cap bs := by
  rcases h.2 with ⟨h', h0⟩ | ⟨g, cap', cur, h', _, hg, _⟩
  · simp at h'
    exact Or.inl ⟨h'.1, h'.2.1, h'.2.2⟩
  · simp at h'
    obtain ⟨rfl, rfl⟩ := h'
    refine Or.inr ⟨_, g, 0, rfl, fun _ => ⟨rfl, lt_of_block hg⟩, fun i hi => ?_⟩
    rw [Nat.zero_add, h.cellAt i (by omega)]
    simp [Lib.byteCells, List.getElem?_map, List.getElem?_eq_getElem hi, List.getD_eq_getElem?_getD]

end Go.Proofs.Qxb6614839a
