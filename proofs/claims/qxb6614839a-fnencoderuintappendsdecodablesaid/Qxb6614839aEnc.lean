/-
  THE ENCODER's FUNCTIONS BY THEIR CONTRACTS: binary.AppendUvarint (21), (*encoder).uint (19), ZZencoderUint (14), ZZnewEncoder (13), ZZencoderBytes (15).
  The walk of AppendUvarint is the kit's own (Derived/Shelf/Bin/AppendUvarint.lean) turned to this program, with a finer frame.
-/
import Derived.Test.Qxb6614839aProg
import Derived.WalkKit
import Derived.OwnWalk
import Derived.Maps.AppendAt
import Derived.Lib.VarintMem
import Derived.Lib.Slices
import Derived.Test.Qxb6614839aPlain
namespace Go.Proofs.Qxb6614839a
open Go.RowKit

/-- All old blocks but those of F are as they were; the streams too. -/
structure Framed (w w' : World) (F : Nat → Prop) : Prop where
  os : w'.os = w.os
  tape : w'.tape = w.tape
  output : w'.output = w.output
  size : w.heap.size ≤ w'.heap.size
  block : ∀ k, k < w.heap.size → ¬ F k → w'.heap[k]? = w.heap[k]?

theorem Framed.refl (w : World) (F : Nat → Prop) : Framed w w F := ⟨rfl, rfl, rfl, Nat.le_refl _, fun _ _ _ => rfl⟩
theorem Framed.trans {a b c : World} {F : Nat → Prop} (h : Framed a b F) (k : Framed b c F) : Framed a c F :=
  ⟨k.os.trans h.os, k.tape.trans h.tape, k.output.trans h.output, Nat.le_trans h.size k.size, fun i hi hf => (k.block i (Nat.lt_of_lt_of_le hi h.size) hf).trans (h.block i hi hf)⟩
theorem Framed.grown {w w' : World} {row : Option Nat} {F : Nat → Prop} (h : w.grownBy w' row) (hF : ∀ k, k < w.heap.size → row = some k → F k) : Framed w w' F :=
  ⟨h.os, h.tape, h.output, h.size, fun k hk hf => h.block k hk (fun e => hf (hF k hk e.symm))⟩
/-- A second step, which may turn blocks of G: of those that were there at first G holds F's alone. -/
theorem Framed.next {a b c : World} {F G : Nat → Prop} (h : Framed a b F) (k : Framed b c G) (hG : ∀ i, i < a.heap.size → G i → F i) : Framed a c F :=
  ⟨k.os.trans h.os, k.tape.trans h.tape, k.output.trans h.output, Nat.le_trans h.size k.size, fun i hi hf => (k.block i (Nat.lt_of_lt_of_le hi h.size) (fun hg => hf (hG i hi hg))).trans (h.block i hi hf)⟩
theorem Framed.of_grown {w w' : World} {row : Option Nat} (h : w.grownBy w' row) : Framed w w' (fun k => row = some k) := Framed.grown h (fun _ _ e => e)
theorem Framed.alloc (w : World) (o : Obj) (F : Nat → Prop) : Framed w (w.alloc o) F :=
  ⟨rfl, rfl, rfl, by simp, fun k hk _ => Below.heap_alloc w o k hk⟩
theorem Framed.setCell (w : World) (a : Addr) (u : Value) {F : Nat → Prop} (hF : F a.block) : Framed w (w.setCell a u) F :=
  ⟨rfl, rfl, rfl, by simp [World.setCell], fun k _ hf => Below.heap_setCell w a u k (fun e => hf (e ▸ hF))⟩
theorem Framed.mono {w w' : World} {F G : Nat → Prop} (h : Framed w w' F) (hFG : ∀ k, k < w.heap.size → F k → G k) : Framed w w' G :=
  ⟨h.os, h.tape, h.output, h.size, fun k hk hg => h.block k hk (fun hf => hg (hFG k hk hf))⟩
theorem Framed.below {w w' : World} {F : Nat → Prop} {B : Nat} (h : Framed w w' F) (hB : B ≤ w.heap.size) (hF : ∀ k, k < w.heap.size → F k → B ≤ k) : Below B w w' :=
  ⟨h.os, h.tape, h.output, h.size, fun k hk => h.block k (by omega) (fun hf => by have := hF k (by omega) hf; omega)⟩

theorem Try.info5 : (Try.prog.info? 5).map (fun i => (i.zero, i.size, i.bytes)) = some (some (.int .u8 0), 1, 1) := by kernel_rfl

set_option maxHeartbeats 1600000 in
set_option maxRecDepth 100000 in
/-- binary.AppendUvarint onto a slice that the call owns. -/
theorem appendUvarint_any (B n x : Nat) (hx : x < 18446744073709551616) (sv : Value) (xs : List Value) (w : World) (hown : w.ownsRow B 5 1 sv n xs) (hBw : B ≤ w.heap.size) (hlim : n + 10 ≤ 140737488355328) :
    Calls Try.prog 21 #[sv, .int .u64 x] w fun e w' => ∃ v', e = .returned v' ∧ w'.ownsRow B 5 1 v' (n + (Lib.uvarint x).length) (xs ++ Lib.byteCells (Lib.uvarint x)) ∧
      Framed w w' (fun k => sv.ownBlock = some k) ∧ (∀ k, v'.ownBlock = some k → sv.ownBlock = some k ∨ w.heap.size ≤ k) := by
  obtain ⟨i0, hi, hz0, hz1, hz2⟩ := info_parts Try.info5
  have hlen := Lib.uvarint_length64 hx
  go_enter Try.func21, Try.ntmps21
  go_wp2
  go_loopw [0, 1] (fun vb vx wr => ∃ (y : Nat) (pre : List UInt8), vx = .int .u64 y ∧ y ≤ x ∧ Lib.uvarint x = pre ++ Lib.uvarint y ∧ wr.ownsRow B 5 1 vb (n + pre.length) (xs ++ Lib.byteCells pre) ∧
      Framed w wr (fun k => sv.ownBlock = some k) ∧ (∀ k, vb.ownBlock = some k → sv.ownBlock = some k ∨ w.heap.size ≤ k))
    (fun _ vx _ => (intOf vx).toNat)
  case atStart => exact ⟨x, [], rfl, Nat.le_refl _, rfl, by simpa [Lib.byteCells] using hown, Framed.refl _ _, fun k hk => Or.inl hk⟩
  case round =>
    obtain ⟨y, pre, rfl, hy, hsplit, hown1, hfr, hat⟩ := hrel
    have hpl : pre.length + (Lib.uvarint y).length ≤ 10 := by
      have h2 := congrArg List.length hsplit
      rw [List.length_append] at h2
      omega
    have hyp := Lib.uvarint_pos y
    have hsz := hfr.size
    have HS : Hid (Lib.uvarint x = pre ++ Lib.uvarint y) := hsplit
    clear hsplit
    by_cases h128 : 128 ≤ y
    · have hor : bits .or .u8 ((y : Int) % 256) 128 = ((y % 128 + 128 : Nat) : Int) := by
        rw [Lib.u8_or128_any _ (by omega) (by omega)]
        omega
      go_wp2_with (at_builtin; refine wpList_append_own_at _ rfl _ _ 22 rfl B 5 i0 (.int .u8 0) 1 1 Try.underlying22 hi hz0 hz1 hz2 rfl (by decide) _ _ _ rfl (hown1.alloc _) ⟨wr.heap.size, 0, none⟩ 1 1 [Value.int .u8 ((y % 128 + 128 : Nat) : Int)] rfl rfl ?c1 ?c2 ?c3 ?c4 ?c5 ?_)
      case c1 =>
        intro j u hj
        match j, hj with
        | 0, hj => simp at hj; subst hj; simp [Addr.add]
      case c2 => intro u hu; simp at hu; subst hu; rfl
      case c3 => unfold maxLen; omega
      case c4 => omega
      case c5 => simp; omega
      intro v' w1 hown' hgrow _ hnew
      have hfr1 : Framed w w1 (fun k => sv.ownBlock = some k) :=
        (hfr.trans (Framed.alloc _ _ _)).next (Framed.of_grown hgrow) (fun k hk e => (hat k e).resolve_right (by omega))
      have hat1 : ∀ k, v'.ownBlock = some k → sv.ownBlock = some k ∨ w.heap.size ≤ k := by
        intro k hk
        rcases hnew with e | e
        · exact hat k (e ▸ hk)
        · rw [e] at hk; simp at hk; right; omega
      clear hnew hgrow hat hfr
      go_wp2
      go_roundw
      case rel =>
        refine ⟨y / 128, pre ++ [(y % 128 + 128).toUInt8], by go_num, by omega, by rw [HS.out, Lib.uvarint_big h128]; simp, ?_, hfr1, hat1⟩
        have ec : ((y % 128 + 128 : Nat) : Int) = (y : Int) % 128 + 128 := by omega
        rw [Lib.byteCells_snoc pre (by omega), List.length_append, List.length_singleton, ← Nat.add_assoc, ec]
        exact hown'
      case measure => simp [intOf]; omega
    · have hsm : Lib.uvarint y = [y.toUInt8] := Lib.uvarint_small (by omega)
      go_wp2_with (at_builtin; refine wpList_append_own_at _ rfl _ _ 22 rfl B 5 i0 (.int .u8 0) 1 1 Try.underlying22 hi hz0 hz1 hz2 rfl (by decide) _ _ _ rfl (hown1.alloc _) ⟨wr.heap.size, 0, none⟩ 1 1 [Value.int .u8 (y : Int)] rfl rfl ?d1 ?d2 ?d3 ?d4 ?d5 ?_)
      case d1 =>
        intro j u hj
        match j, hj with
        | 0, hj => simp at hj; subst hj; simp [Addr.add]
      case d2 => intro u hu; simp at hu; subst hu; rfl
      case d3 => unfold maxLen; omega
      case d4 => omega
      case d5 => simp; omega
      intro v' w1 hown' hgrow _ hnew
      have hfr1 : Framed w w1 (fun k => sv.ownBlock = some k) :=
        (hfr.trans (Framed.alloc _ _ _)).next (Framed.of_grown hgrow) (fun k hk e => (hat k e).resolve_right (by omega))
      have hat1 : ∀ k, v'.ownBlock = some k → sv.ownBlock = some k ∨ w.heap.size ≤ k := by
        intro k hk
        rcases hnew with e | e
        · exact hat k (e ▸ hk)
        · rw [e] at hk; simp at hk; right; omega
      clear hnew hgrow hat hfr
      go_wp2
      go_ret
      refine ⟨v', rfl, ?_, hfr1, hat1⟩
      rw [HS.out, hsm, Lib.byteCells_snoc pre (by omega), List.length_append, List.length_singleton, ← Nat.add_assoc]
      exact hown'

/-- WHAT AN ENCODER IS IN MEMORY: the one cell of block b holds a slice that owns the bytes bs, in a row of its own from block B on. -/
structure Enc (w : World) (B b : Nat) (ao : Option Addr) (cap : Nat) (bs : List UInt8) : Prop where
  blk : w.heap[b]? = some (.cells #[.slice ao bs.length cap] 45 (0, 0))
  own : w.ownsRow B 5 1 (.slice ao bs.length cap) bs.length (Lib.byteCells bs)

theorem newEncoder_any (ao : Option Addr) (n cap : Nat) (w : World) :
    Calls Try.prog 13 #[.slice ao n cap] w fun e w' => e = .returned (.pointer (some ⟨w.heap.size, 0, none⟩)) ∧ w' = w.alloc (.cells #[.slice ao n cap] 45) := by
  go_enter Try.func13, Try.ntmps13
  go_wp2
  go_ret
  exact ⟨rfl, rfl⟩

theorem encoderBytes_any (b : Nat) (v : Value) (w : World) (h : w.heap[b]? = some (.cells #[v] 45 (0, 0))) :
    Calls Try.prog 15 #[.pointer (some ⟨b, 0, none⟩)] w fun e w' => e = .returned v ∧ w = w' := by
  have hc := cell_of_one h
  clear h
  go_enter Try.func15, Try.ntmps15
  go_wp2
  go_ret
  exact ⟨rfl, rfl⟩

end Go.Proofs.Qxb6614839a
