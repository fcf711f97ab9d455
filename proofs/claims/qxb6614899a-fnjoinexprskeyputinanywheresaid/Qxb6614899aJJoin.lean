/-
  zzJoin (9) BY ITS CONTRACT.
-/
import Derived.Test.Qxb6614899aJData
import Derived.Test.Qxb6614899aJLeaf
import Derived.Deep.RegionHeld3
import Derived.Deep.DrawnRows
namespace Go.Proofs.Qxb6614899a
open Go.RowKit
attribute [local go_sem ↓] Go.wp_at_zero Go.wp_at_succ

theorem Try.info62 : (Try.prog.info? 62).map (fun i => (i.zero, i.size, i.bytes)) = some (some (.agg #[.nilIface, .nilIface, .bool false]), 3, 40) := by kernel_rfl
theorem Try.info35 : (Try.prog.info? 35).map (fun i => (i.zero, i.size, i.bytes)) = some (some .nilIface, 1, 16) := by kernel_rfl

theorem heap_at (Y : World) (o : Obj) (n : Nat) (hn : Y.heap.size = n) : (Y.alloc o).heap[n]? = some o := by subst hn; exact heap_alloc_new Y o

/-- THE CELLS THAT THE KEYS' STATEMENT READS, in every world in which only keys' rows have turned. -/
theorem keepK {wr W : World} {N n cap n2 cap2 : Nat} {kind : ByteArray} {ao ao2 : Option Addr} {key : KeyC} (h : wr.heap[N]? = some (.cells #[.string kind, .slice ao n cap, .slice ao2 n2 cap2, .nilIface, .nilIface] 60 (0, 0)))
    (hs : Steady [62] (wr.alloc (.cells #[.string key.lt, .string key.lc, .string key.rt, .string key.rc, .bool key.ns] 25)) W) :
    W.cell? ⟨N, 1, none⟩ = some (.slice ao n cap) ∧ W.cell? ⟨wr.heap.size, 0, none⟩ = some (.string key.lt) ∧ W.cell? ⟨wr.heap.size, 1, none⟩ = some (.string key.lc) ∧ W.cell? ⟨wr.heap.size, 2, none⟩ = some (.string key.rt) ∧ W.cell? ⟨wr.heap.size, 3, none⟩ = some (.string key.rc) ∧ W.cell? ⟨wr.heap.size, 4, none⟩ = some (.bool key.ns) := by
  have h1 := hs N _ _ _ (by decide) (Steady.alloc [62] wr _ N _ _ _ (by decide) h)
  have h2 := hs wr.heap.size _ _ _ (by decide) (heap_alloc_new wr _)
  refine ⟨?_, ?_, ?_, ?_, ?_, ?_⟩ <;> simp [World.cell?, h1, h2]

theorem tripCells_snoc (ts : List (Value × Value × Bool)) (a b : Value) (c : Bool) : tripCells (ts ++ [(a, b, c)]) = tripCells ts ++ [a, b, .bool c] := by simp [tripCells]
theorem tripVals_snoc (ts : List (Value × Value × Bool)) (a b : Value) (c : Bool) : tripVals (ts ++ [(a, b, c)]) = tripVals ts ++ [a, b] := by simp [tripVals]

/-- ONE KEY MORE: the Join behind the store. -/
theorem key_step {wr w1 : World} {N n cap g cap2 : Nat} {kind : ByteArray} {ao : Option Addr} {ts : List (Value × Value × Bool)} {key : KeyC} {cols : List (ByteArray × ByteArray)} {b1 b2 : Nat} {w2 : World}
    (hJ : JoinAt wr (N + 1) N kind ao none n cap 0 0 ts [] cols [])
    (hst : Steady [62] wr w1) (hst2 : Steady [62] w2 w1) (r1 : w2.heap[b1]? = some (.cells #[.string key.lt, .string key.lc] 67 (0, 0))) (r2 : w2.heap[b2]? = some (.cells #[.string key.rt, .string key.rc] 67 (0, 0)))
    (hown : w1.ownsRow (N + 1) 62 3 (.slice (some ⟨g, 0, none⟩) (n + 1) cap2) (n + 1) (tripCells ts ++ [.iface 65 (.pointer (some ⟨b1, 0, none⟩)), .iface 65 (.pointer (some ⟨b2, 0, none⟩)), .bool key.ns])) :
    JoinAt (w1.setCell ⟨N, 1, none⟩ (.slice (some ⟨g, 0, none⟩) (n + 1) cap2)) (N + 1) N kind (some ⟨g, 0, none⟩) none (n + 1) cap2 0 0 (ts ++ [(.iface 65 (.pointer (some ⟨b1, 0, none⟩)), .iface 65 (.pointer (some ⟨b2, 0, none⟩)), key.ns)]) [] (cols ++ key.cols) [] := by
  have hblk := hst N _ _ _ (by decide) hJ.blk
  have hsc : Steady [60] w1 (w1.setCell ⟨N, 1, none⟩ (.slice (some ⟨g, 0, none⟩) (n + 1) cap2)) := Steady.setCell (a := ⟨N, 1, none⟩) hblk (by decide) _
  refine ⟨?_, ?_, World.ownsRow_nil _ _ _ _, ?_, Refs.nil _⟩
  · rw [heap_setCell_same w1 N 1 _ 60 _ hblk]
    rfl
  · rw [tripCells_snoc]
    exact own_steady hown hsc (by decide)
  · rw [tripVals_snoc]
    refine Refs.steady (Refs.append (hJ.refK.steady hst (by decide)) (Refs.two ?_ ?_)) hsc (by decide)
    · exact ⟨b1, rfl, hst2 b1 _ _ _ (by decide) r1⟩
    · exact ⟨b2, rfl, hst2 b2 _ _ _ (by decide) r2⟩

/-- ONE CONJUNCT MORE. -/
theorem cond_step {wr w1 : World} {N nK capK n cap g cap2 : Nat} {kind : ByteArray} {aoK ao : Option Addr} {ts : List (Value × Value × Bool)} {cs : List Value} {keys cols : List (ByteArray × ByteArray)} {c : ByteArray × ByteArray} {b1 : Nat} {w2 : World}
    (hJ : JoinAt wr (N + 1) N kind aoK ao nK capK n cap ts cs keys cols)
    (hst : Steady [35] wr w1) (hst2 : Steady [35] w2 w1) (r1 : w2.heap[b1]? = some (.cells #[.string c.1, .string c.2] 67 (0, 0)))
    (hown : w1.ownsRow (N + 1) 35 1 (.slice (some ⟨g, 0, none⟩) (n + 1) cap2) (n + 1) (cs ++ [.iface 65 (.pointer (some ⟨b1, 0, none⟩))])) :
    JoinAt (w1.setCell ⟨N, 2, none⟩ (.slice (some ⟨g, 0, none⟩) (n + 1) cap2)) (N + 1) N kind aoK (some ⟨g, 0, none⟩) nK capK (n + 1) cap2 ts (cs ++ [.iface 65 (.pointer (some ⟨b1, 0, none⟩))]) keys (cols ++ [c]) := by
  have hblk := hst N _ _ _ (by decide) hJ.blk
  have hsc : Steady [60] w1 (w1.setCell ⟨N, 2, none⟩ (.slice (some ⟨g, 0, none⟩) (n + 1) cap2)) := Steady.setCell (a := ⟨N, 2, none⟩) hblk (by decide) _
  refine ⟨?_, own_steady (own_steady hJ.ownK hst (by decide)) hsc (by decide), own_steady hown hsc (by decide), (hJ.refK.steady hst (by decide)).steady hsc (by decide), ?_⟩
  · rw [heap_setCell_same w1 N 2 _ 60 _ hblk]
    rfl
  · exact Refs.steady (Refs.append (hJ.refC.steady hst (by decide)) (Refs.one ⟨b1, rfl, hst2 b1 _ _ _ (by decide) r1⟩)) hsc (by decide)

end Go.Proofs.Qxb6614899a
