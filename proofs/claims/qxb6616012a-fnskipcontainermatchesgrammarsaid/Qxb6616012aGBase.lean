/-
  THE SPLITTER IN MEMORY, and its smallest functions.
-/
import Derived.Test.Qxb6616012aGPlain
import Derived.Test.Qxb6616012aProg
import Derived.WalkKit
import Derived.WalkLawsBesides
import Derived.WalkSpells
import Derived.OwnWalk
import Derived.Lib.SliceRun
import Derived.Deep.QuietTactic
import Derived.BigQuiet
import Derived.Outline
namespace Go.Proofs.Qxb6616012a.G
open Go.RowKit

/-- THE SPLITTER: block s, over the bytes D 0 .. D (n-1) in block g, at p. -/
structure Spl (w : World) (s g n cap : Nat) (D : Nat → Int) (dep : Int) (p : Nat) (f : Bool) : Prop where
  blk : w.heap[s]? = some (.cells #[.slice (some ⟨g, 0, none⟩) n cap, .int .i64 p, .int .i64 dep, .bool f] 47 (0, 0))
  dat : ∀ i, i < n → w.cell? ⟨g, i, none⟩ = some (.int .u8 (D i))
  ne : g ≠ s
  le : n ≤ cap

/-- ONLY BLOCK s HAS TURNED. -/
structure Sp (s : Nat) (w w' : World) : Prop where
  os : w'.os = w.os
  tape : w'.tape = w.tape
  output : w'.output = w.output
  size : w'.heap.size = w.heap.size
  block : ∀ k, k ≠ s → w'.heap[k]? = w.heap[k]?

theorem Sp.refl (s : Nat) (w : World) : Sp s w w := ⟨rfl, rfl, rfl, rfl, fun _ _ => rfl⟩
theorem Sp.trans {s : Nat} {a b c : World} (h : Sp s a b) (k : Sp s b c) : Sp s a c := ⟨k.os.trans h.os, k.tape.trans h.tape, k.output.trans h.output, k.size.trans h.size, fun i hi => (k.block i hi).trans (h.block i hi)⟩
theorem Sp.drewN {s : Nat} {a w : World} (h : Sp s a w) (n : Nat) : Sp s a (w.drewN n) := ⟨h.os, h.tape, h.output, h.size, h.block⟩
theorem Sp.setCell {s : Nat} {a w : World} (h : Sp s a w) (i : Nat) (u : Value) : Sp s a (w.setCell ⟨s, i, none⟩ u) :=
  h.trans ⟨rfl, rfl, rfl, by simp [World.setCell], fun k hk => Below.heap_setCell _ _ _ _ (by simpa using hk)⟩
theorem Sp.below {s : Nat} {a w : World} (h : Sp s a w) {B : Nat} (hB : B ≤ s) : Below B a w := ⟨h.os, h.tape, h.output, Nat.le_of_eq h.size.symm, fun k hk => h.block k (by omega)⟩

section
variable {w : World} {s g n cap : Nat} {D : Nat → Int} {dep : Int} {p : Nat} {f : Bool}
theorem Spl.cells (h : Spl w s g n cap D dep p f) : w.cell? ⟨s, 0, none⟩ = some (.slice (some ⟨g, 0, none⟩) n cap) ∧ w.cell? ⟨s, 1, none⟩ = some (.int .i64 p) ∧ w.cell? ⟨s, 2, none⟩ = some (.int .i64 dep) ∧ w.cell? ⟨s, 3, none⟩ = some (.bool f) ∧
    w.frozen? ⟨s, 1, none⟩ = false ∧ w.frozen? ⟨s, 3, none⟩ = false := by
  have hb := h.blk
  refine ⟨?_, ?_, ?_, ?_, ?_, ?_⟩ <;> simp [World.cell?, World.frozen?, hb]
theorem Spl.drewN (h : Spl w s g n cap D dep p f) (k : Nat) : Spl (w.drewN k) s g n cap D dep p f := ⟨h.blk, h.dat, h.ne, h.le⟩
theorem Spl.setAt (h : Spl w s g n cap D dep p f) (q : Int) (p' : Nat) (hq : q = (p' : Int)) : Spl (w.setCell ⟨s, 1, none⟩ (.int .i64 q)) s g n cap D dep p' f := by
  subst hq
  refine ⟨?_, fun i hi => ?_, h.ne, h.le⟩
  · simp [World.setCell, Array.getElem?_modify, h.blk]
  · rw [World.cell?_of_block (w := w) (Below.heap_setCell _ _ _ _ h.ne)]
    exact h.dat i hi
theorem Spl.setFailed (h : Spl w s g n cap D dep p f) (b : Bool) : Spl (w.setCell ⟨s, 3, none⟩ (.bool b)) s g n cap D dep p b := by
  refine ⟨?_, fun i hi => ?_, h.ne, h.le⟩
  · simp [World.setCell, Array.getElem?_modify, h.blk]
  · rw [World.cell?_of_block (w := w) (Below.heap_setCell _ _ _ _ h.ne)]
    exact h.dat i hi
end

/-- Where the splitter stands: for a loop's measure. -/
def atOf (s : Nat) (w : World) : Nat := match w.cell? ⟨s, 1, none⟩ with
  | some v => (intOf v).toNat
  | none => 0
theorem Spl.at {w : World} {s g n cap : Nat} {D : Nat → Int} {dep : Int} {p : Nat} {f : Bool} (h : Spl w s g n cap D dep p f) : atOf s w = p := by simp [atOf, h.cells.2.1, intOf]

set_option maxHeartbeats 1000000 in
/-- skipSpace -/
theorem skipSpace_any (s g n cap : Nat) (D : Nat → Int) (dep : Int) (p : Nat) (f : Bool) (w : World) (h : Spl w s g n cap D dep p f) (hp : p ≤ n) (hn : n ≤ 1048576) :
    Calls Try.prog 34 #[.pointer (some ⟨s, 0, none⟩)] w fun e w' => e = .returned (.tuple #[]) ∧ Spl w' s g n cap D dep (ws D n p) f ∧ Sp s w w' := by
  have HS : Hid (Spl w s g n cap D dep p f) := h
  clear h
  go_enter Try.func34, Try.ntmps34
  go_wp2_with fail
  go_loopw [] (fun wr => ∃ q : Nat, q ≤ n ∧ ws D n q = ws D n p ∧ Spl wr s g n cap D dep q f ∧ Sp s w wr) (fun wr => n - atOf s wr)
  case atStart => exact ⟨p, hp, rfl, HS.out, Sp.refl _ _⟩
  case round =>
    obtain ⟨q, hq, hw, hS, hsp⟩ := hrel
    obtain ⟨c0, c1, c2, c3, f1, f3⟩ := hS.cells
    by_cases hlt : q < n
    · have b1 : (q : Int) < (n : Int) := by omega
      have d0 := hS.dat q hlt
      have HW : Hid (Spl wr s g n cap D dep q f) := hS
      have HQ : Hid (ws D n q = ws D n p) := hw
      clear hS hw
      by_cases hc : isWs (D q) = true
      · have hc' := hc
        simp only [isWs, Bool.or_eq_true, beq_iff_eq] at hc'
        have e1 := ws_go D n hlt hc
        have HE : Hid (ws D n q = ws D n (q + 1)) := e1
        clear e1 hc
        rcases hc' with ((hc | hc) | hc) | hc <;> rw [hc] at d0
        all_goals
          go_wp2
          go_quiet (fail)
          go_wp2
          go_quiet (fail)
          go_wp2
          go_roundw
          case rel => exact ⟨q + 1, by omega, HE.out.symm.trans HQ.out, ((HW.out.drewN _).setAt _ _ (by omega)), (hsp.drewN _).setCell _ _⟩
          case measure => rw [((HW.out.drewN _).setAt _ (q + 1) (by omega)).at, HW.out.at]; omega
      · have hd : ∀ x, x = 32 ∨ x = 9 ∨ x = 10 ∨ x = 13 → (D q == x) = false := fun x hx => by
          simp only [isWs, Bool.or_eq_true, beq_iff_eq] at hc
          rw [beq_eq_false_iff_ne]
          omega
        have t1 := hd 32 (by simp)
        have t2 := hd 9 (by simp)
        have t3 := hd 10 (by simp)
        have t4 := hd 13 (by simp)
        have e1 := ws_stop D n (j := q) (fun h => hc h.2)
        have HE : Hid (ws D n q = q) := e1
        clear hd e1 hc
        go_wp2
        go_quiet (fail)
        go_wp2
        go_quiet (fail)
        go_wp2
        refine bodyPost_ret (results_none rfl _ _ _) rfl ?_
        have hx : ws D n p = q := HQ.out.symm.trans HE.out
        rw [hx]
        exact ⟨rfl, HW.out.drewN _, hsp.drewN _⟩
    · have b1 : decide ((q : Int) < (n : Int)) = false := by simp; omega
      have e1 := ws_stop D n (j := q) (fun h => hlt h.1)
      have HE : Hid (ws D n q = q) := e1
      have HW : Hid (Spl wr s g n cap D dep q f) := hS
      have HQ : Hid (ws D n q = ws D n p) := hw
      clear hS hw e1
      go_wp2
      go_quiet (fail)
      go_wp2
      go_end0
      have hx : ws D n p = q := HQ.out.symm.trans HE.out
      rw [hx]
      exact ⟨rfl, HW.out.drewN _, hsp.drewN _⟩
end Go.Proofs.Qxb6616012a.G
