/-
  THE STACK OF CLOSERS in memory: a row of bytes, in the array of the call's own or in a grown one.
-/
import Derived.Test.Qxb6616012aGValue
import Derived.Deep.RegionLawGrows
import Derived.Deep.RegionHeld3
namespace Go.Proofs.Qxb6616012a.G
open Go.RowKit

theorem Try.info5 : (Try.prog.info? 5).map (fun i => (i.zero, i.size, i.bytes)) = some (some (.int .u8 0), 1, 1) := by kernel_rfl

structure RowB (w : World) (r cap m : Nat) (xs : List Value) : Prop where
  len : xs.length = m
  le : m ≤ cap
  top : cap ≤ maxLen
  blk : ∃ cur t, w.heap[r]? = some (.cells cur t (0, 0)) ∧ cur.size = cap ∧ cur.toList.take m = xs

section
variable {w : World} {r cap m : Nat} {xs : List Value}
theorem RowB.lt (h : RowB w r cap m xs) : r < w.heap.size := by
  obtain ⟨cur, t, hb, _⟩ := h.blk
  exact lt_of_block hb
theorem RowB.cell (h : RowB w r cap m xs) (j : Nat) (u : Value) (hj : xs[j]? = some u) : w.cell? ⟨r, j, none⟩ = some u := by
  obtain ⟨cur, t, hb, _, ht⟩ := h.blk
  rw [cell_of_row w r j cur t _ hb]
  rw [← ht, List.getElem?_take] at hj
  split at hj
  · simpa using hj
  · cases hj
theorem RowB.same {w' : World} (h : RowB w r cap m xs) (hb : w'.heap[r]? = w.heap[r]?) : RowB w' r cap m xs := by
  obtain ⟨cur, t, hb', h1, h2⟩ := h.blk
  exact ⟨h.len, h.le, h.top, cur, t, hb.trans hb', h1, h2⟩
theorem RowB.sp {w' : World} {s : Nat} (h : RowB w r cap m xs) (hs : Sp s w w') (hne : r ≠ s) : RowB w' r cap m xs := h.same (hs.block r hne)
theorem RowB.pop {x : Value} {ys : List Value} (h : RowB w r cap (m + 1) (ys ++ [x])) : RowB w r cap m ys := by
  obtain ⟨cur, t, hb', h1, h2⟩ := h.blk
  have hl := h.len
  have hle := h.le
  simp at hl
  refine ⟨hl, by omega, h.top, cur, t, hb', h1, ?_⟩
  have : (cur.toList.take (m + 1)).take m = ys := by rw [h2, ← hl]; simp
  rw [List.take_take] at this
  rwa [show min m (m + 1) = m by omega] at this
theorem RowB.spare (h : RowB w r cap m xs) (hroom : m + 1 ≤ cap) : (w.cell? ⟨r, m, none⟩).isSome = true ∧ w.frozen? ⟨r, m, none⟩ = false := by
  obtain ⟨cur, t, hb', h1, h2⟩ := h.blk
  constructor
  · rw [cell_of_row w r m cur t _ hb']
    simp
    omega
  · simp [World.frozen?, hb']
theorem RowB.push (h : RowB w r cap m xs) (hroom : m + 1 ≤ cap) (v : Value) : RowB (w.setCell ⟨r, m, none⟩ v) r cap (m + 1) (xs ++ [v]) := by
  obtain ⟨cur, t, hb', h1, h2⟩ := h.blk
  refine ⟨by simp [h.len], hroom, h.top, cur.setIfInBounds m v, t, ?_, by simp [h1], ?_⟩
  · simp [World.setCell, Array.getElem?_modify, hb']
  · rw [← h2]
    simp only [Array.toList_setIfInBounds]
    rw [List.take_add_one, List.take_set_of_le (Nat.le_refl _)]
    congr 1
    rw [List.getElem?_set_self (by simp; omega)]
    rfl
theorem RowB.of_own {base : Nat} {v : Value} (h : w.ownsRow base 5 1 v m xs) (hm : 0 < m) : ∃ r cap, v = .slice (some ⟨r, 0, none⟩) m cap ∧ base ≤ r ∧ RowB w r cap m xs := by
  rcases h.2 with ⟨_, h0⟩ | ⟨g, c, cur, hv, hb, hg, h1, h2, h3, h4⟩
  · omega
  · have := h.1
    exact ⟨g, c, hv, hb, by omega, h1, h2, cur, 5, hg, by omega, by simpa using h4⟩
theorem RowB.room (w : World) : RowB (w.alloc (.cells (Array.replicate 64 (.int .u8 0)) 52)) w.heap.size 64 0 [] := ⟨rfl, by omega, by unfold maxLen; omega, _, 52, heap_alloc_new w _, by simp, by simp⟩
end
end Go.Proofs.Qxb6616012a.G
