/-
  FROM A READING OF []KeyCols, []ColRef, KeyCols TO WHAT THE WALKS ASK.
-/
import Derived.Test.Qxb6614899aJData
import Derived.Test.Qxb6614899aProg
import Derived.ProofKit
import Derived.Deep.Slices
import Derived.WideShapes
namespace Go.Proofs.Qxb6614899a
open Go.RowKit Go.Deep

theorem cells_get {w : World} {base : Nat} {a : Addr} {n : Nat} {cs : List Value} (h : w.cells? base a n = some cs) : cs.length = n ∧ ∀ f, f < n → w.cell? (a.add f) = cs[f]? := by
  unfold World.cells? at h
  split at h
  · have hl := mapM_some_length h
    refine ⟨by simpa using hl, fun f hf => ?_⟩
    exact mapM_some_get h f f (by simp [hf])
  · cases h

theorem open_rows {H : Type} {enc : TypeId × Value → H} {P : Program} {w : World} {base : Nat} {held : Bool} {t e : TypeId} {fuel : Nat} {ao : Option Addr} {len cap : Nat} {x : DataW H × List MemPlace} {α : Type} (d : α) (f : α → List Value) (size : Nat)
    (hpos : 0 < size) (hf : ∀ a, (f a).length = size) (ht : P.underlying t = some (.slice e)) (hsz : P.cellsOf e = size)
    (hel : ∀ n cs' y, DataW.trod enc P w base (fun _ => true) held n e cs' = some y → ∃ a, cs' = f a)
    (h : DataW.trod enc P w base (fun _ => true) held fuel t [.slice ao len cap] = some x) :
    ∃ l : List α, l.length = len ∧ len ≤ cap ∧ RowOf w ao (l.flatMap f) := by
  rcases open_slice ht h with ⟨hcs, _⟩ | ⟨a, len', cap', m, n, D, Pl, hcs, _, hl, _, hm, _, hx⟩
  · simp at hcs
    obtain ⟨rfl, rfl, rfl⟩ := hcs
    exact ⟨[], rfl, Nat.le_refl _, 0, 0, fun h => absurd rfl h, fun j u h => by simp at h⟩
  · simp at hcs
    obtain ⟨rfl, rfl, rfl⟩ := hcs
    simp at hm
    subst hm
    rw [hsz] at hx
    have hex : ∀ i, i < m → ∃ k : α, ∀ j, j < size → w.cell? (a.add (i * size + j)) = (f k)[j]? := by
      intro i hi
      obtain ⟨cs', h1, h2⟩ := hx i hi
      obtain ⟨k, rfl⟩ := hel _ _ _ h2
      refine ⟨k, fun j hj => ?_⟩
      rw [← add_add]
      exact (cells_get h1).2 j hj
    have hin : Inhabited α := ⟨d⟩
    obtain ⟨F, hF⟩ := choose_lt hex
    refine ⟨(List.range len).map F, by simp, hl, ?_⟩
    have hget : ∀ i, i < len → ((List.range len).map F)[i]? = some (F i) := fun i hi => by simp [hi]
    have hlen : (((List.range len).map F).flatMap f).length = len * size := by rw [flat_len f size hf]; simp
    by_cases h0 : len = 0
    · subst h0
      exact ⟨0, 0, fun h => absurd rfl h, fun j u h => by simp at h⟩
    · obtain ⟨b, off, spot⟩ := a
      have hcell : ∀ j u, (((List.range len).map F).flatMap f)[j]? = some u → w.cell? ((⟨b, off, spot⟩ : Addr).add j) = some u := by
        intro j u hu
        have hj := (List.getElem?_eq_some_iff.1 hu).1
        rw [hlen] at hj
        have hi : j / size < len := (Nat.div_lt_iff_lt_mul hpos).2 hj
        have hjm : j / size * size + j % size = j := Nat.div_add_mod' j size
        have h1 := hF (j / size) (by omega) (j % size) (Nat.mod_lt _ hpos)
        rw [hjm] at h1
        have h2 := flat_get f size hf ((List.range len).map F) (j / size) (j % size) (F (j / size)) (Nat.mod_lt _ hpos) (hget _ hi)
        rw [hjm] at h2
        rw [h1, ← h2]
        exact hu
      have h00 : 0 < (((List.range len).map F).flatMap f).length := by rw [hlen]; exact Nat.mul_pos (by omega) hpos
      have hspot : spot = none := by simpa [Addr.add] using World.cell?_spot (hcell 0 _ (List.getElem?_eq_getElem h00))
      subst hspot
      refine ⟨b, off, fun _ => rfl, fun j u hu => ?_⟩
      have := hcell j u hu
      rwa [WideShapes.add_plain] at this

theorem Try.cells9 : Try.prog.cellsOf 9 = 1 := by kernel_rfl
theorem Try.cells4 : Try.prog.cellsOf 4 = 1 := by kernel_rfl
theorem Try.cells25 : Try.prog.cellsOf 25 = 5 := by kernel_rfl
theorem Try.cells37 : Try.prog.cellsOf 37 = 2 := by kernel_rfl

theorem elem25 {H : Type} {enc : TypeId × Value → H} {w : World} {base : Nat} {spare : Nat → Bool} {held : Bool} (n : Nat) (cs : List Value) (y : DataW H × List MemPlace) (h : DataW.trod enc Try.prog w base spare held n 25 cs = some y) : ∃ k : KeyC, cs = k.cells := by
  obtain ⟨xs, m, _, _, hl, hx, hf⟩ := DataW.trod_struct Try.underlying25 h
  rw [Try.cells25] at hl
  match cs, hl, xs, hx with
  | [c0, c1, c2, c3, c4], _, [x0, x1, x2, x3, x4], _ =>
    have f0 := hf 0 _ rfl
    have f1 := hf 1 _ rfl
    have f2 := hf 2 _ rfl
    have f3 := hf 3 _ rfl
    have f4 := hf 4 _ rfl
    simp [Try.cells9] at f0 f1 f2 f3
    simp [Try.cells4] at f4
    obtain ⟨s0, e0, _, _⟩ := DataW.trod_string Try.underlying9 f0
    obtain ⟨s1, e1, _, _⟩ := DataW.trod_string Try.underlying9 f1
    obtain ⟨s2, e2, _, _⟩ := DataW.trod_string Try.underlying9 f2
    obtain ⟨s3, e3, _, _⟩ := DataW.trod_string Try.underlying9 f3
    obtain ⟨s4, e4, _⟩ := DataW.trod_bool Try.underlying4 f4
    simp at e0 e1 e2 e3 e4
    exact ⟨⟨s0, s1, s2, s3, s4⟩, by simp [KeyC.cells, e0, e1, e2, e3, e4]⟩

theorem elem37 {H : Type} {enc : TypeId × Value → H} {w : World} {base : Nat} {spare : Nat → Bool} {held : Bool} (n : Nat) (cs : List Value) (y : DataW H × List MemPlace) (h : DataW.trod enc Try.prog w base spare held n 37 cs = some y) : ∃ c : ByteArray × ByteArray, cs = colCells c := by
  obtain ⟨xs, m, _, _, hl, hx, hf⟩ := DataW.trod_struct Try.underlying37 h
  rw [Try.cells37] at hl
  match cs, hl, xs, hx with
  | [c0, c1], _, [x0, x1], _ =>
    have f0 := hf 0 _ rfl
    have f1 := hf 1 _ rfl
    simp [Try.cells9] at f0 f1
    obtain ⟨s0, e0, _, _⟩ := DataW.trod_string Try.underlying9 f0
    obtain ⟨s1, e1, _, _⟩ := DataW.trod_string Try.underlying9 f1
    simp at e0 e1
    exact ⟨(s0, s1), by simp [colCells, e0, e1]⟩

end Go.Proofs.Qxb6614899a
