/-
  THE JOIN LAWS' DATA: keys and columns as plain data; how they lie in memory; what stands while other blocks turn.
-/
import Derived.WalkKit
import Derived.OwnWalk
import Derived.Below
import Derived.Deep.Draws
import Derived.Deep.AppendLies
namespace Go.Proofs.Qxb6614899a
open Go.RowKit

/-- A join key of columns. -/
structure KeyC where
  lt : ByteArray
  lc : ByteArray
  rt : ByteArray
  rc : ByteArray
  ns : Bool
def KeyC.cells (k : KeyC) : List Value := [.string k.lt, .string k.lc, .string k.rt, .string k.rc, .bool k.ns]
def KeyC.cols (k : KeyC) : List (ByteArray × ByteArray) := [(k.lt, k.lc), (k.rt, k.rc)]
def colCells (c : ByteArray × ByteArray) : List Value := [.string c.1, .string c.2]
def keysCells (ks : List KeyC) : List Value := ks.flatMap KeyC.cells
def condCells (cs : List (ByteArray × ByteArray)) : List Value := cs.flatMap colCells
def keysCols (ks : List KeyC) : List (ByteArray × ByteArray) := ks.flatMap KeyC.cols

theorem flat_len {α β : Type} (f : α → List β) (n : Nat) (hn : ∀ a, (f a).length = n) : ∀ l : List α, (l.flatMap f).length = l.length * n
  | [] => by simp
  | a :: l => by
    rw [List.flatMap_cons, List.length_append, hn, flat_len f n hn l, List.length_cons, Nat.add_mul, Nat.one_mul, Nat.add_comm]

theorem flat_get {α β : Type} (f : α → List β) (n : Nat) (hn : ∀ a, (f a).length = n) : ∀ (l : List α) (i j : Nat) (a : α), j < n → l[i]? = some a → (l.flatMap f)[i * n + j]? = (f a)[j]?
  | [], i, j, a, _, h => by simp at h
  | b :: l, 0, j, a, hj, h => by
    simp at h
    subst h
    rw [List.flatMap_cons, Nat.zero_mul, Nat.zero_add, List.getElem?_append_left (by rw [hn]; exact hj)]
  | b :: l, i + 1, j, a, hj, h => by
    rw [List.flatMap_cons, List.getElem?_append_right (by rw [hn, Nat.add_mul, Nat.one_mul]; omega), hn, show (i + 1) * n + j - n = i * n + j by rw [Nat.add_mul, Nat.one_mul]; omega]
    exact flat_get f n hn l i j a hj (by simpa using h)

/-- CELLS IN A ROW, as a slice that came in shows them. -/
def RowOf (w : World) (ao : Option Addr) (cs : List Value) : Prop :=
  ∃ b off, (cs ≠ [] → ao = some ⟨b, off, none⟩) ∧ ∀ j u, cs[j]? = some u → w.cell? ⟨b, off + j, none⟩ = some u

theorem RowOf.below {w w' : World} {ao : Option Addr} {cs : List Value} (h : RowOf w ao cs) (hb : Below w.heap.size w w') : RowOf w' ao cs := by
  obtain ⟨b, off, h1, h2⟩ := h
  exact ⟨b, off, h1, fun j u hu => (hb.cell (World.block_lt_of_cell? w _ (h2 j u hu))).trans (h2 j u hu)⟩

/-- AN EXPRESSION: a pointer to a column reference that holds c. -/
def IsRef (w : World) (v : Value) (c : ByteArray × ByteArray) : Prop :=
  ∃ b, v = .iface 65 (.pointer (some ⟨b, 0, none⟩)) ∧ w.heap[b]? = some (.cells #[.string c.1, .string c.2] 67 (0, 0))
def Refs (w : World) (vs : List Value) (cs : List (ByteArray × ByteArray)) : Prop :=
  vs.length = cs.length ∧ ∀ (i : Nat) v c, vs[i]? = some v → cs[i]? = some c → IsRef w v c

theorem Refs.nil (w : World) : Refs w [] [] := ⟨rfl, fun i v c h => by simp at h⟩
theorem Refs.append {w : World} {vs vs' : List Value} {cs cs' : List (ByteArray × ByteArray)} (h : Refs w vs cs) (h' : Refs w vs' cs') : Refs w (vs ++ vs') (cs ++ cs') := by
  refine ⟨by rw [List.length_append, List.length_append, h.1, h'.1], fun i v c hv hc => ?_⟩
  by_cases hi : i < vs.length
  · rw [List.getElem?_append_left hi] at hv
    rw [List.getElem?_append_left (by rw [← h.1]; exact hi)] at hc
    exact h.2 i v c hv hc
  · rw [List.getElem?_append_right (by omega)] at hv
    rw [List.getElem?_append_right (by rw [← h.1]; omega), ← h.1] at hc
    exact h'.2 _ v c hv hc
theorem Refs.one {w : World} {v : Value} {c : ByteArray × ByteArray} (h : IsRef w v c) : Refs w [v] [c] := by
  refine ⟨rfl, fun i v' c' hv hc => ?_⟩
  match i, hv, hc with
  | 0, hv, hc =>
    simp at hv hc
    subst hv; subst hc
    exact h
theorem Refs.two {w : World} {v v' : Value} {c c' : ByteArray × ByteArray} (h : IsRef w v c) (h' : IsRef w v' c') : Refs w [v, v'] [c, c'] := (Refs.one h).append (Refs.one h')

/-- BLOCKS OF OTHER TYPES THAN THOSE OF T STAND. -/
def Steady (T : List TypeId) (w w' : World) : Prop := ∀ (k : Nat) cs t fr, t ∉ T → w.heap[k]? = some (.cells cs t fr) → w'.heap[k]? = some (.cells cs t fr)

theorem Steady.refl (T : List TypeId) (w : World) : Steady T w w := fun _ _ _ _ _ h => h
theorem Steady.trans {T : List TypeId} {a b c : World} (h : Steady T a b) (k : Steady T b c) : Steady T a c := fun i cs t fr ht hi => k i cs t fr ht (h i cs t fr ht hi)
theorem Steady.alloc (T : List TypeId) (w : World) (o : Obj) : Steady T w (w.alloc o) := fun k cs t fr _ h => by
  rw [Below.heap_alloc w o k (lt_of_block h)]; exact h
theorem Steady.drew (T : List TypeId) (w : World) : Steady T w w.drew := fun _ _ _ _ _ h => h
theorem Steady.drewN (T : List TypeId) (w : World) (n : Nat) : Steady T w (w.drewN n) := fun _ _ _ _ _ h => h
theorem Steady.setCell {T : List TypeId} {w : World} {a : Addr} {cs : Array Value} {t : TypeId} {fr : Nat × Nat} (h : w.heap[a.block]? = some (.cells cs t fr)) (ht : t ∈ T) (u : Value) : Steady T w (w.setCell a u) := fun k cs' t' fr' ht' h' => by
  rw [Below.heap_setCell w a u k (fun e => by subst e; rw [h] at h'; simp at h'; exact ht' (h'.2.1 ▸ ht))]; exact h'
theorem Steady.grown {T : List TypeId} {w w' : World} {base : Nat} {e : TypeId} {size : Nat} {v : Value} {n : Nat} {xs : List Value} (hown : w.ownsRow base e size v n xs) (hg : w.grownBy w' v.ownBlock) (he : e ∈ T) : Steady T w w' := fun k cs t fr ht h => by
  rw [hg.block k (lt_of_block h) (fun hk => ?_)]
  · exact h
  · rcases hown.2 with ⟨rfl, _⟩ | ⟨g, cap, cur, rfl, _, hh, _⟩
    · simp [Value.ownBlock] at hk
    · simp [Value.ownBlock] at hk
      subst hk
      rw [hh] at h
      simp at h
      exact ht (h.2.1 ▸ he)

theorem IsRef.steady {T : List TypeId} {w w' : World} {v : Value} {c : ByteArray × ByteArray} (h : IsRef w v c) (hs : Steady T w w') (hT : 67 ∉ T) : IsRef w' v c := by
  obtain ⟨b, h1, h2⟩ := h
  exact ⟨b, h1, hs b _ _ _ hT h2⟩
theorem Refs.steady {T : List TypeId} {w w' : World} {vs : List Value} {cs : List (ByteArray × ByteArray)} (h : Refs w vs cs) (hs : Steady T w w') (hT : 67 ∉ T) : Refs w' vs cs :=
  ⟨h.1, fun i v c hv hc => (h.2 i v c hv hc).steady hs hT⟩
theorem own_steady {T : List TypeId} {w w' : World} {base : Nat} {e : TypeId} {size : Nat} {v : Value} {n : Nat} {xs : List Value} (h : w.ownsRow base e size v n xs) (hs : Steady T w w') (hT : e ∉ T) : w'.ownsRow base e size v n xs := by
  refine ⟨h.1, ?_⟩
  rcases h.2 with h2 | ⟨g, cap, cur, hv, hg, hh, r⟩
  · exact Or.inl h2
  · exact Or.inr ⟨g, cap, cur, hv, hg, hs g _ _ _ hT hh, r⟩
theorem Steady.of_below {T : List TypeId} {w w' : World} (h : Below w.heap.size w w') : Steady T w w' := fun k _ _ _ _ hk => (h.block k (lt_of_block hk)).trans hk

/-- The keys' cells as the Join holds them: two expressions and a flag a key. -/
def tripCells (ts : List (Value × Value × Bool)) : List Value := ts.flatMap fun t => [t.1, t.2.1, .bool t.2.2]
def tripVals (ts : List (Value × Value × Bool)) : List Value := ts.flatMap fun t => [t.1, t.2.1]

/-- A JOIN IN MEMORY, at block j: its keys' row and its conjuncts' row are its own. -/
structure JoinAt (w : World) (N j : Nat) (kind : ByteArray) (aoK aoC : Option Addr) (nK capK nC capC : Nat) (ts : List (Value × Value × Bool)) (cs : List Value) (keys cond : List (ByteArray × ByteArray)) : Prop where
  blk : w.heap[j]? = some (.cells #[.string kind, .slice aoK nK capK, .slice aoC nC capC, .nilIface, .nilIface] 60 (0, 0))
  ownK : w.ownsRow N 62 3 (.slice aoK nK capK) nK (tripCells ts)
  ownC : w.ownsRow N 35 1 (.slice aoC nC capC) nC cs
  refK : Refs w (tripVals ts) keys
  refC : Refs w cs cond

end Go.Proofs.Qxb6614899a
