/-
  zzJoin (9) BY ITS CONTRACT: THE WALK.
-/
import Derived.Test.Qxb6614899aJJoin
namespace Go.Proofs.Qxb6614899a
open Go.RowKit
attribute [local go_sem ↓] Go.wp_at_zero Go.wp_at_succ

theorem frozen_of_block {w : World} {b o : Nat} {cs : Array Value} {t : TypeId} (h : w.heap[b]? = some (.cells cs t (0, 0))) : w.frozen? ⟨b, o, none⟩ = false := by simp [World.frozen?, h]

theorem news3 (X : World) (n : Nat) (a b c : Value) (h0 : X.cell? ⟨n, 0, none⟩ = some a) (h1 : X.cell? ⟨n, 1, none⟩ = some b) (h2 : X.cell? ⟨n, 2, none⟩ = some c) : ∀ j u, [a, b, c][j]? = some u → X.cell? ((⟨n, 0, none⟩ : Addr).add j) = some u := by
  intro j u hj
  match j, hj with
  | 0, hj => simp at hj; subst hj; simpa [Addr.add] using h0
  | 1, hj => simp at hj; subst hj; simpa [Addr.add] using h1
  | 2, hj => simp at hj; subst hj; simpa [Addr.add] using h2

theorem cutH {p q : Prop} (h : p) (k : p → q) : q := k h

/-- A proposition that no tactic sees through. -/
structure Box (p : Prop) : Prop where
  out : p

theorem backH {S : World → Prop} {R K : Act → World → Prop} (hK : Shut (∀ a w, S w → (S w → R a w) → K a w)) {a : Act} {w : World} (hS : S w) (h : S w → R a w) : K a w := hK a w hS h

theorem cell_last (Y : World) (cs : Array Value) (t : TypeId) (n o : Nat) (v : Value) (hn : Y.heap.size = n) (hv : cs[o]? = some v) : (Y.alloc (.cells cs t)).cell? ⟨n, o, none⟩ = some v := by
  subst hn
  rw [cell_of_row _ _ _ _ _ _ (heap_alloc_new Y _)]
  exact hv

theorem cell_setCell_ne (w : World) (a : Addr) (u : Value) (b o : Nat) (h : b ≠ a.block) : (w.setCell a u).cell? ⟨b, o, none⟩ = w.cell? ⟨b, o, none⟩ := World.cell?_of_block (Below.heap_setCell w a u b h)

theorem keepC {w W : World} {b o : Nat} {u v : Value} (q0 : w.cell? ⟨b, o, none⟩ = some u) (q1 : w.cell? ⟨b, o + 1, none⟩ = some v) (hb : Below w.heap.size w W) : W.cell? ⟨b, o, none⟩ = some u ∧ W.cell? ⟨b, o + 1, none⟩ = some v :=
  ⟨cell_later hb q0, cell_later hb q1⟩

theorem news1 (X : World) (n : Nat) (a : Value) (h0 : X.cell? ⟨n, 0, none⟩ = some a) : ∀ j u, [a][j]? = some u → X.cell? ((⟨n, 0, none⟩ : Addr).add j) = some u := by
  intro j u hj
  match j, hj with
  | 0, hj => simp at hj; subst hj; simpa [Addr.add] using h0

theorem take_snoc_some {α : Type} (l : List α) (k : Nat) (a : α) (h : l[k]? = some a) : l.take (k + 1) = l.take k ++ [a] := by
  obtain ⟨hlt, rfl⟩ := List.getElem?_eq_some_iff.1 h
  exact List.take_succ_eq_append_getElem hlt

theorem key_cell {w : World} {ks : List KeyC} {b off k : Nat} {key : KeyC} (hcell : ∀ j u, (keysCells ks)[j]? = some u → w.cell? ⟨b, off + j, none⟩ = some u) (hkey : ks[k]? = some key) (f : Nat) (u : Value) (hf : f < 5) (hu : key.cells[f]? = some u) : w.cell? ⟨b, off + k * 5 + f, none⟩ = some u := by
  have := hcell (k * 5 + f) u (by rw [keysCells, flat_get KeyC.cells 5 (fun _ => rfl) ks k f key hf hkey]; exact hu)
  rwa [← Nat.add_assoc] at this

theorem cond_cell {w : World} {cs : List (ByteArray × ByteArray)} {b off k : Nat} {c : ByteArray × ByteArray} (hcell : ∀ j u, (condCells cs)[j]? = some u → w.cell? ⟨b, off + j, none⟩ = some u) (hkey : cs[k]? = some c) (f : Nat) (u : Value) (hf : f < 2) (hu : (colCells c)[f]? = some u) : w.cell? ⟨b, off + k * 2 + f, none⟩ = some u := by
  have := hcell (k * 2 + f) u (by rw [condCells, flat_get colCells 2 (fun _ => rfl) cs k f c hf hkey]; exact hu)
  rwa [← Nat.add_assoc] at this

theorem keysCols_take_succ (ks : List KeyC) (k : Nat) (key : KeyC) (h : ks[k]? = some key) : keysCols (ks.take (k + 1)) = keysCols (ks.take k) ++ key.cols := by
  obtain ⟨hlt, rfl⟩ := List.getElem?_eq_some_iff.1 h
  rw [List.take_succ_eq_append_getElem hlt, keysCols, List.flatMap_append]
  simp [keysCols]

set_option linter.unusedSimpArgs false in
set_option maxHeartbeats 1600000 in
set_option maxRecDepth 100000 in
theorem join_any (kind : ByteArray) (ks : List KeyC) (cond : List (ByteArray × ByteArray)) (aK aC : Option Addr) (cK cC : Nat) (w : World)
    (hk : ks.length ≤ 1048577) (hc : cond.length ≤ 1048576) (rK : RowOf w aK (keysCells ks)) (rC : RowOf w aC (condCells cond)) :
    Calls Try.prog 9 #[.string kind, .slice aK ks.length cK, .slice aC cond.length cC] w fun e w' => e = .returned (.pointer (some ⟨w.heap.size, 0, none⟩)) ∧
      ∃ aoK capK aoC capC ts cs, JoinAt w' (w.heap.size + 1) w.heap.size kind aoK aoC ks.length capK cond.length capC ts cs (keysCols ks) cond ∧ Below w.heap.size w w' := by
  obtain ⟨i62, hi62, hz62, hs62, hb62⟩ := info_parts Try.info62
  obtain ⟨i35, hi35, hz35, hs35, hb35⟩ := info_parts Try.info35
  have RK : Hid (RowOf w aK (keysCells ks)) := rK
  have RC : Hid (RowOf w aC (condCells cond)) := rC
  clear rK rC
  go_enter Try.func9, Try.ntmps9
  go_wp2
  go_loopw [8, 9] (fun i _ wr => ∃ (k : Nat) (ao : Option Addr) (cap : Nat) (ts : List (Value × Value × Bool)), k ≤ ks.length ∧ i = .int .i64 k ∧ JoinAt wr (w.heap.size + 1) w.heap.size kind ao none k cap 0 0 ts [] (keysCols (ks.take k)) [] ∧ Below w.heap.size w wr) (fun i _ _ => ks.length - (intOf i).toNat)
  case atStart => exact ⟨0, none, 0, [], by omega, rfl, ⟨heap_alloc_new w _, World.ownsRow_nil _ _ _ _, World.ownsRow_nil _ _ _ _, Refs.nil _, Refs.nil _⟩, (Below.refl _ _).alloc (Nat.le_refl _) _⟩
  case round =>
    obtain ⟨k, ao, cap, ts, hkl, rfl, hJ, hB⟩ := hrel
    by_cases hlt : k < ks.length
    · obtain ⟨key, hkey⟩ : ∃ key, ks[k]? = some key := ⟨_, List.getElem?_eq_getElem hlt⟩
      obtain ⟨b, off, hao, hcell⟩ := (RK.out).below hB
      have hne : keysCells ks ≠ [] := fun e => by have := flat_len KeyC.cells 5 (fun _ => rfl) ks; rw [show ks.flatMap KeyC.cells = [] from e] at this; simp at this; omega
      have hao' := hao hne
      subst hao'
      have q0 : wr.cell? ⟨b, off + k * 5, none⟩ = some (.string key.lt) := key_cell hcell hkey 0 _ (by omega) rfl
      have q1 : wr.cell? ⟨b, off + k * 5 + 1, none⟩ = some (.string key.lc) := key_cell hcell hkey 1 _ (by omega) rfl
      have q2 : wr.cell? ⟨b, off + k * 5 + 2, none⟩ = some (.string key.rt) := key_cell hcell hkey 2 _ (by omega) rfl
      have q3 : wr.cell? ⟨b, off + k * 5 + 3, none⟩ = some (.string key.rc) := key_cell hcell hkey 3 _ (by omega) rfl
      have q4 : wr.cell? ⟨b, off + k * 5 + 4, none⟩ = some (.bool key.ns) := key_cell hcell hkey 4 _ (by omega) rfl
      have b1 : (k : Int) < (ks.length : Int) := by omega
      have hN : w.heap.size < wr.heap.size := lt_of_block hJ.blk
      have HK : Hid (ks[k]? = some key) := hkey
      have HB : Hid (Below w.heap.size w wr) := hB
      have HJ : Hid (JoinAt wr (w.heap.size + 1) w.heap.size kind ao none k cap 0 0 ts [] (keysCols (ks.take k)) []) := hJ
      clear hJ hkey hao hcell hne hB
      go_wp2
      refine wp_region_noPanic ?_
      refine wp_region_held_drew (S := fun W => W.cell? ⟨wr.heap.size, 0, none⟩ = some (.string key.lt) ∧ W.cell? ⟨wr.heap.size, 1, none⟩ = some (.string key.lc) ∧ W.cell? ⟨wr.heap.size, 2, none⟩ = some (.string key.rt) ∧ W.cell? ⟨wr.heap.size, 3, none⟩ = some (.string key.rc) ∧ W.cell? ⟨wr.heap.size, 4, none⟩ = some (.bool key.ns)) (by kernel_rfl) ?_ (fun hHeld => ?_)
      · exact (keepK (wr := wr) (key := key) HJ.out.blk (Steady.drew _ _)).2
      refine wpAnyH_take (i := 0) (v := ?v0) rfl (by kernel_rfl) (by kernel_rfl) (by kernel_rfl) (fun _ _ _ h => h) (Or.inl ⟨by rfl, ?y0⟩) hHeld ?r0
      case y0 => (intro W hSw; obtain ⟨s0, s1, s2, s3, s4⟩ := hSw; go_simp; try with_reducible rfl)
      simp only [Act.put, List.setIfInBounds_toArray, List.set_cons_zero, List.set_cons_succ]
      refine wpAnyH_take (i := 1) (v := ?v1) rfl (by kernel_rfl) (by kernel_rfl) (by kernel_rfl) (fun _ _ _ h => h) (Or.inl ⟨by rfl, ?y1⟩) hHeld ?r1
      case y1 => (intro W hSw; obtain ⟨s0, s1, s2, s3, s4⟩ := hSw; go_simp; try with_reducible rfl)
      simp only [Act.put, List.setIfInBounds_toArray, List.set_cons_zero, List.set_cons_succ]
      refine wpAnyH_take (i := 2) (v := ?v2) rfl (by kernel_rfl) (by kernel_rfl) (by kernel_rfl) (fun _ _ _ h => h) (Or.inl ⟨by rfl, ?y2⟩) hHeld ?r2
      case y2 => (intro W hSw; obtain ⟨s0, s1, s2, s3, s4⟩ := hSw; go_simp; try with_reducible rfl)
      simp only [Act.put, List.setIfInBounds_toArray, List.set_cons_zero, List.set_cons_succ]
      refine wpAnyH_take (i := 3) (v := ?v3) rfl (by kernel_rfl) (by kernel_rfl) (by kernel_rfl) (fun _ _ _ h => h) (Or.inl ⟨by rfl, ?y3⟩) hHeld ?r3
      case y3 => (intro W hSw; obtain ⟨s0, s1, s2, s3, s4⟩ := hSw; go_simp; try with_reducible rfl)
      simp only [Act.put, List.setIfInBounds_toArray, List.set_cons_zero, List.set_cons_succ]
      refine wpAnyH_take (i := 5) (v := ?v5) rfl (by kernel_rfl) (by kernel_rfl) (by kernel_rfl) (fun _ _ _ h => h) (Or.inl ⟨by rfl, ?y5⟩) hHeld ?r5
      case y5 => (intro W hSw; obtain ⟨s0, s1, s2, s3, s4⟩ := hSw; go_simp; try with_reducible rfl)
      simp only [Act.put, List.setIfInBounds_toArray, List.set_cons_zero, List.set_cons_succ]
      refine wpAnyH_take (i := 6) (v := ?v6) rfl (by kernel_rfl) (by kernel_rfl) (by kernel_rfl) (fun _ _ _ h => h) (Or.inl ⟨by rfl, ?y6⟩) hHeld ?r6
      case y6 => (intro W hSw; obtain ⟨s0, s1, s2, s3, s4⟩ := hSw; go_simp; try with_reducible rfl)
      simp only [Act.put, List.setIfInBounds_toArray, List.set_cons_zero, List.set_cons_succ]
      refine wpAnyH_take (i := 7) (v := ?v7) rfl (by kernel_rfl) (by kernel_rfl) (by kernel_rfl) (fun _ _ _ h => h) (Or.inl ⟨by rfl, ?y7⟩) hHeld ?r7
      case y7 => (intro W hSw; obtain ⟨s0, s1, s2, s3, s4⟩ := hSw; go_simp; try with_reducible rfl)
      simp only [Act.put, List.setIfInBounds_toArray, List.set_cons_zero, List.set_cons_succ]
      refine wpAnyH_take (i := 8) (v := ?v8) rfl (by kernel_rfl) (by kernel_rfl) (by kernel_rfl) (fun _ _ _ h => h) (Or.inl ⟨by rfl, ?y8⟩) hHeld ?r8
      case y8 => (intro W hSw; obtain ⟨s0, s1, s2, s3, s4⟩ := hSw; go_simp; try with_reducible rfl)
      simp only [Act.put, List.setIfInBounds_toArray, List.set_cons_zero, List.set_cons_succ]
      refine wpAnyH_take (i := 9) (v := ?v9) rfl (by kernel_rfl) (by kernel_rfl) (by kernel_rfl) (fun _ _ _ h => h) (Or.inl ⟨by rfl, ?y9⟩) hHeld ?r9
      case y9 => (intro W hSw; obtain ⟨s0, s1, s2, s3, s4⟩ := hSw; go_simp; try with_reducible rfl)
      simp only [Act.put, List.setIfInBounds_toArray, List.set_cons_zero, List.set_cons_succ]
      refine wpAnyH_take (i := 10) (v := ?v10) rfl (by kernel_rfl) (by kernel_rfl) (by kernel_rfl) (fun _ _ _ h => h) (Or.inl ⟨by rfl, ?y10⟩) hHeld ?r10
      case y10 => (intro W hSw; obtain ⟨s0, s1, s2, s3, s4⟩ := hSw; go_simp; try with_reducible rfl)
      simp only [Act.put, List.setIfInBounds_toArray, List.set_cons_zero, List.set_cons_succ]
      refine wpAnyH_take (i := 11) (v := ?v11) rfl (by kernel_rfl) (by kernel_rfl) (by kernel_rfl) (fun _ _ _ h => h) (Or.inl ⟨by rfl, ?y11⟩) hHeld ?r11
      case y11 => (intro W hSw; obtain ⟨s0, s1, s2, s3, s4⟩ := hSw; go_simp; try with_reducible rfl)
      simp only [Act.put, List.setIfInBounds_toArray, List.set_cons_zero, List.set_cons_succ]
      refine wpAnyH_take (i := 12) (v := ?v12) rfl (by kernel_rfl) (by kernel_rfl) (by kernel_rfl) (fun _ _ _ h => h) (Or.inl ⟨by rfl, ?y12⟩) hHeld ?r12
      case y12 => (intro W hSw; obtain ⟨s0, s1, s2, s3, s4⟩ := hSw; go_simp; try with_reducible rfl)
      simp only [Act.put, List.setIfInBounds_toArray, List.set_cons_zero, List.set_cons_succ]
      refine wpAnyH_take (i := 13) (v := ?v13) rfl (by kernel_rfl) (by kernel_rfl) (by kernel_rfl) (fun _ _ _ h => h) (Or.inl ⟨by rfl, ?y13⟩) hHeld ?r13
      case y13 => (intro W hSw; obtain ⟨s0, s1, s2, s3, s4⟩ := hSw; go_simp; try with_reducible rfl)
      simp only [Act.put, List.setIfInBounds_toArray, List.set_cons_zero, List.set_cons_succ]
      refine wpAnyH_take (i := 14) (v := ?v14) rfl (by kernel_rfl) (by kernel_rfl) (by kernel_rfl) (fun _ _ _ h => h) (Or.inl ⟨by rfl, ?y14⟩) hHeld ?r14
      case y14 => (intro W hSw; obtain ⟨s0, s1, s2, s3, s4⟩ := hSw; go_simp; try with_reducible rfl)
      simp only [Act.put, List.setIfInBounds_toArray, List.set_cons_zero, List.set_cons_succ]
      have cN : wr.cell? ⟨w.heap.size, 1, none⟩ = some (.slice ao k cap) := by simp [World.cell?, HJ.out.blk]
      have cN3 : ∀ A B C D, ((((wr.alloc A).alloc B).alloc C).alloc D).cell? ⟨w.heap.size, 1, none⟩ = some (.slice ao k cap) := fun A B C D => cell_later (((((Below.refl _ _).alloc (Nat.le_refl _) _).alloc (by simp) _).alloc (by simp <;> omega) _).alloc (by simp <;> omega) _) cN
      have cN4 : ∀ A B C D E, (((((wr.alloc A).alloc B).alloc C).alloc D).alloc E).cell? ⟨w.heap.size, 1, none⟩ = some (.slice ao k cap) := fun A B C D E => cell_later ((((((Below.refl _ _).alloc (Nat.le_refl _) _).alloc (by simp) _).alloc (by simp <;> omega) _).alloc (by simp <;> omega) _).alloc (by simp <;> omega) _) cN
      refine wpAnyH_ready (rs := [4, 15]) (by kernel_rfl) (by simp) ?_
      refine AllReadyH.cons rfl (fun K hK => ?_) (AllReadyH.cons rfl (fun K hK => ?_) AllReadyH.nil)
      · go_simp
        refine backH hK (by exact (keepK (wr := wr) (key := key) HJ.out.blk (by repeat (first | exact Steady.refl _ _ | refine Steady.trans ?_ (Steady.drew _ _) | refine Steady.trans ?_ (Steady.alloc _ _ _)))).2) (fun hHeld => ?_)
        clear hK K
        try simp only [Act.put, List.setIfInBounds_toArray, List.set_cons_zero, List.set_cons_succ]
        refine wpAnyH_ready (rs := [15]) (by kernel_rfl) (by simp) ?_
        refine AllReadyH.cons rfl (fun K hK => ?_) AllReadyH.nil
        go_simp
        refine (columnKey_any _ _ _ _ _ _).mono ?_
        rintro e w' ⟨rfl, rfl⟩
        go_wp2_with fail
        refine backH hK (by exact (keepK (wr := wr) (key := key) HJ.out.blk (by repeat (first | exact Steady.refl _ _ | refine Steady.trans ?_ (Steady.drew _ _) | refine Steady.trans ?_ (Steady.alloc _ _ _)))).2) (fun hHeld => ?_)
        clear hK K
        try simp only [Act.put, List.setIfInBounds_toArray, List.set_cons_zero, List.set_cons_succ]
        refine wpAnyH_ready (rs := [16]) (by kernel_rfl) (by simp) ?_
        refine AllReadyH.cons rfl (fun K hK => ?_) AllReadyH.nil
        go_simp
        refine backH hK (by exact (keepK (wr := wr) (key := key) HJ.out.blk (by repeat (first | exact Steady.refl _ _ | refine Steady.trans ?_ (Steady.drew _ _) | refine Steady.trans ?_ (Steady.alloc _ _ _)))).2) (fun hHeld => ?_)
        clear hK K
        try simp only [Act.put, List.setIfInBounds_toArray, List.set_cons_zero, List.set_cons_succ]
        refine wpAnyH_ready (rs := [17]) (by kernel_rfl) (by simp) ?_
        refine AllReadyH.cons rfl (fun K hK => ?_) AllReadyH.nil
        refine step_append_lies _ (by rfl) _ _ _ (by rfl) (w.heap.size + 1) 62 i62 _ 3 40 Try.underlying56 hi62 hz62 hs62 hb62 rfl (by omega) (.slice ao k cap) k (tripCells ts) (by rfl) (by repeat (first | exact HJ.out.ownK | apply World.ownsRow.alloc | apply World.ownsRow.drew)) ⟨wr.heap.size + 1 + 1 + 1 + 1, 0, none⟩ 1 1 [Value.iface 65 (.pointer (some ⟨wr.heap.size + 1 + 1, 0, none⟩)), Value.iface 65 (.pointer (some ⟨wr.heap.size + 1 + 1 + 1, 0, none⟩)), .bool key.ns] (by rfl) (by rfl) (news3 _ _ _ _ _ (by simp; exact cell_last _ _ _ _ _ _ (by simp) rfl) (by simp; exact cell_last _ _ _ _ _ _ (by simp) rfl) (by simp; exact cell_last _ _ _ _ _ _ (by simp) rfl)) (by simp [Value.oneCell']) (by omega) (by unfold maxLen; omega) (by omega) (by simp <;> omega) (wr.heap.size + 1 + 1 + 1 + 1 + 1) (by simp) ?_
        intro g cap2 w1 hown1 hgrow hat hlt1
        have hst1 := Steady.grown (T := [62]) (base := w.heap.size + 1) (e := 62) (size := 3) (v := .slice ao k cap) (n := k) (xs := tripCells ts) (by repeat (first | exact HJ.out.ownK | apply World.ownsRow.alloc | apply World.ownsRow.drew)) hgrow (by decide)
        have hch : Steady [62] (wr.alloc (.cells #[.string key.lt, .string key.lc, .string key.rt, .string key.rc, .bool key.ns] 25)) w1 := Steady.trans (by repeat (first | exact Steady.refl _ _ | refine Steady.trans ?_ (Steady.drew _ _) | refine Steady.trans ?_ (Steady.alloc _ _ _))) hst1
        have hchY : Steady [62] ((((wr.alloc (.cells #[.string key.lt, .string key.lc, .string key.rt, .string key.rc, .bool key.ns] 25)).alloc (.cells #[Value.iface 65 (.pointer (some ⟨wr.heap.size + 1 + 1, 0, none⟩)), Value.iface 65 (.pointer (some ⟨wr.heap.size + 1 + 1 + 1, 0, none⟩)), .bool key.ns] 62)).alloc (.cells #[.string key.lt, .string key.lc] 67)).alloc (.cells #[.string key.rt, .string key.rc] 67)) w1 := Steady.trans (by repeat (first | exact Steady.refl _ _ | refine Steady.trans ?_ (Steady.drew _ _) | refine Steady.trans ?_ (Steady.alloc _ _ _))) hst1
        have hk1 := keepK (wr := wr) (key := key) HJ.out.blk hch
        have hJ1 := key_step (g := g) (cap2 := cap2) (key := key) HJ.out (Steady.trans (Steady.alloc _ _ _) hch) hchY (Steady.alloc [62] _ _ _ _ _ _ (by decide) (heap_at _ _ (wr.heap.size + 1 + 1) (by simp))) (heap_at _ _ (wr.heap.size + 1 + 1 + 1) (by simp)) hown1
        have hB1 : Below w.heap.size w w1 := Below.grown (by repeat (first | exact HB.out | apply Below.drew | refine Below.alloc ?_ (by first | omega | (simp <;> omega)) _)) hgrow (by simp <;> omega) (fun q hq => by have := (HJ.out.ownK.lt q hq).1; omega)
        have f1 := hk1.1
        have f2 : w1.frozen? ⟨w.heap.size, 1, none⟩ = false := frozen_of_block (hch w.heap.size _ _ _ (by decide) (Steady.alloc [62] wr _ _ _ _ _ (by decide) HJ.out.blk))
        have HJ1 : Hid _ := hJ1
        have HB1 : Hid _ := hB1
        have HT : Hid _ := keysCols_take_succ ks k key HK.out
        clear hst1 hch hchY hJ1 hB1 hgrow hown1 hat hlt1
        refine backH hK hk1.2 (fun hHeld => ?_)
        clear hK K
        try simp only [Act.put, List.setIfInBounds_toArray, List.set_cons_zero, List.set_cons_succ]
        refine wpAnyH_take (i := 18) (v := ?v18_1) rfl (by kernel_rfl) (by kernel_rfl) (by kernel_rfl) (fun _ _ _ h => h) (Or.inl ⟨by rfl, ?y18_1⟩) hHeld ?r18_1
        case y18_1 => (intro W hSw; clear hSw; go_simp; try with_reducible rfl)
        try simp only [Act.put, List.setIfInBounds_toArray, List.set_cons_zero, List.set_cons_succ]
        refine wpAnyH_take (i := 19) (v := ?v19_1) rfl (by kernel_rfl) (by kernel_rfl) (by kernel_rfl) (fun _ _ _ h => h) (Or.inl ⟨by rfl, ?y19_1⟩) hHeld ?r19_1
        case y19_1 => (intro W hSw; clear hSw; go_simp; try with_reducible rfl)
        try simp only [Act.put, List.setIfInBounds_toArray, List.set_cons_zero, List.set_cons_succ]
        refine wpAnyH_ready (rs := [20]) (by kernel_rfl) (by simp) ?_
        refine AllReadyH.cons rfl (fun K hK => ?_) AllReadyH.nil
        go_simp
        refine backH hK ⟨(cell_setCell_ne _ _ _ _ _ (by simp <;> omega)).trans hHeld.1, (cell_setCell_ne _ _ _ _ _ (by simp <;> omega)).trans hHeld.2.1, (cell_setCell_ne _ _ _ _ _ (by simp <;> omega)).trans hHeld.2.2.1, (cell_setCell_ne _ _ _ _ _ (by simp <;> omega)).trans hHeld.2.2.2.1, (cell_setCell_ne _ _ _ _ _ (by simp <;> omega)).trans hHeld.2.2.2.2⟩ (fun hHeld => ?_)
        clear hK K
        try simp only [Act.put, List.setIfInBounds_toArray, List.set_cons_zero, List.set_cons_succ]
        refine wpAnyH_done (by kernel_rfl) ?_ _
        refine NoPanic.normal ?_
        go_wp2
        go_roundw
        case rel => exact ⟨k + 1, _, _, _, by omega, by go_num, by rw [HT.out]; exact HJ1.out, HB1.out.setCell (Nat.le_refl _) _⟩
        case measure => simp [intOf]; omega
      · go_simp
        refine (columnKey_any _ _ _ _ _ _).mono ?_
        rintro e w' ⟨rfl, rfl⟩
        go_wp2_with fail
        refine backH hK (by exact (keepK (wr := wr) (key := key) HJ.out.blk (by repeat (first | exact Steady.refl _ _ | refine Steady.trans ?_ (Steady.drew _ _) | refine Steady.trans ?_ (Steady.alloc _ _ _)))).2) (fun hHeld => ?_)
        clear hK K
        try simp only [Act.put, List.setIfInBounds_toArray, List.set_cons_zero, List.set_cons_succ]
        refine wpAnyH_ready (rs := [4, 16]) (by kernel_rfl) (by simp) ?_
        refine AllReadyH.cons rfl (fun K hK => ?_) (AllReadyH.cons rfl (fun K hK => ?_) AllReadyH.nil)
        · go_simp
          refine backH hK (by exact (keepK (wr := wr) (key := key) HJ.out.blk (by repeat (first | exact Steady.refl _ _ | refine Steady.trans ?_ (Steady.drew _ _) | refine Steady.trans ?_ (Steady.alloc _ _ _)))).2) (fun hHeld => ?_)
          clear hK K
          try simp only [Act.put, List.setIfInBounds_toArray, List.set_cons_zero, List.set_cons_succ]
          refine wpAnyH_ready (rs := [16]) (by kernel_rfl) (by simp) ?_
          refine AllReadyH.cons rfl (fun K hK => ?_) AllReadyH.nil
          go_simp
          refine backH hK (by exact (keepK (wr := wr) (key := key) HJ.out.blk (by repeat (first | exact Steady.refl _ _ | refine Steady.trans ?_ (Steady.drew _ _) | refine Steady.trans ?_ (Steady.alloc _ _ _)))).2) (fun hHeld => ?_)
          clear hK K
          try simp only [Act.put, List.setIfInBounds_toArray, List.set_cons_zero, List.set_cons_succ]
          refine wpAnyH_ready (rs := [17]) (by kernel_rfl) (by simp) ?_
          refine AllReadyH.cons rfl (fun K hK => ?_) AllReadyH.nil
          refine step_append_lies _ (by rfl) _ _ _ (by rfl) (w.heap.size + 1) 62 i62 _ 3 40 Try.underlying56 hi62 hz62 hs62 hb62 rfl (by omega) (.slice ao k cap) k (tripCells ts) (by rfl) (by repeat (first | exact HJ.out.ownK | apply World.ownsRow.alloc | apply World.ownsRow.drew)) ⟨wr.heap.size + 1 + 1 + 1 + 1, 0, none⟩ 1 1 [Value.iface 65 (.pointer (some ⟨wr.heap.size + 1 + 1, 0, none⟩)), Value.iface 65 (.pointer (some ⟨wr.heap.size + 1 + 1 + 1, 0, none⟩)), .bool key.ns] (by rfl) (by rfl) (news3 _ _ _ _ _ (by simp; exact cell_last _ _ _ _ _ _ (by simp) rfl) (by simp; exact cell_last _ _ _ _ _ _ (by simp) rfl) (by simp; exact cell_last _ _ _ _ _ _ (by simp) rfl)) (by simp [Value.oneCell']) (by omega) (by unfold maxLen; omega) (by omega) (by simp <;> omega) (wr.heap.size + 1 + 1 + 1 + 1 + 1) (by simp) ?_
          intro g cap2 w1 hown1 hgrow hat hlt1
          have hst1 := Steady.grown (T := [62]) (base := w.heap.size + 1) (e := 62) (size := 3) (v := .slice ao k cap) (n := k) (xs := tripCells ts) (by repeat (first | exact HJ.out.ownK | apply World.ownsRow.alloc | apply World.ownsRow.drew)) hgrow (by decide)
          have hch : Steady [62] (wr.alloc (.cells #[.string key.lt, .string key.lc, .string key.rt, .string key.rc, .bool key.ns] 25)) w1 := Steady.trans (by repeat (first | exact Steady.refl _ _ | refine Steady.trans ?_ (Steady.drew _ _) | refine Steady.trans ?_ (Steady.alloc _ _ _))) hst1
          have hchY : Steady [62] ((((wr.alloc (.cells #[.string key.lt, .string key.lc, .string key.rt, .string key.rc, .bool key.ns] 25)).alloc (.cells #[Value.iface 65 (.pointer (some ⟨wr.heap.size + 1 + 1, 0, none⟩)), Value.iface 65 (.pointer (some ⟨wr.heap.size + 1 + 1 + 1, 0, none⟩)), .bool key.ns] 62)).alloc (.cells #[.string key.lt, .string key.lc] 67)).alloc (.cells #[.string key.rt, .string key.rc] 67)) w1 := Steady.trans (by repeat (first | exact Steady.refl _ _ | refine Steady.trans ?_ (Steady.drew _ _) | refine Steady.trans ?_ (Steady.alloc _ _ _))) hst1
          have hk1 := keepK (wr := wr) (key := key) HJ.out.blk hch
          have hJ1 := key_step (g := g) (cap2 := cap2) (key := key) HJ.out (Steady.trans (Steady.alloc _ _ _) hch) hchY (Steady.alloc [62] _ _ _ _ _ _ (by decide) (heap_at _ _ (wr.heap.size + 1 + 1) (by simp))) (heap_at _ _ (wr.heap.size + 1 + 1 + 1) (by simp)) hown1
          have hB1 : Below w.heap.size w w1 := Below.grown (by repeat (first | exact HB.out | apply Below.drew | refine Below.alloc ?_ (by first | omega | (simp <;> omega)) _)) hgrow (by simp <;> omega) (fun q hq => by have := (HJ.out.ownK.lt q hq).1; omega)
          have f1 := hk1.1
          have f2 : w1.frozen? ⟨w.heap.size, 1, none⟩ = false := frozen_of_block (hch w.heap.size _ _ _ (by decide) (Steady.alloc [62] wr _ _ _ _ _ (by decide) HJ.out.blk))
          have HJ1 : Hid _ := hJ1
          have HB1 : Hid _ := hB1
          have HT : Hid _ := keysCols_take_succ ks k key HK.out
          clear hst1 hch hchY hJ1 hB1 hgrow hown1 hat hlt1
          refine backH hK hk1.2 (fun hHeld => ?_)
          clear hK K
          try simp only [Act.put, List.setIfInBounds_toArray, List.set_cons_zero, List.set_cons_succ]
          refine wpAnyH_take (i := 18) (v := ?v18_2) rfl (by kernel_rfl) (by kernel_rfl) (by kernel_rfl) (fun _ _ _ h => h) (Or.inl ⟨by rfl, ?y18_2⟩) hHeld ?r18_2
          case y18_2 => (intro W hSw; clear hSw; go_simp; try with_reducible rfl)
          try simp only [Act.put, List.setIfInBounds_toArray, List.set_cons_zero, List.set_cons_succ]
          refine wpAnyH_take (i := 19) (v := ?v19_2) rfl (by kernel_rfl) (by kernel_rfl) (by kernel_rfl) (fun _ _ _ h => h) (Or.inl ⟨by rfl, ?y19_2⟩) hHeld ?r19_2
          case y19_2 => (intro W hSw; clear hSw; go_simp; try with_reducible rfl)
          try simp only [Act.put, List.setIfInBounds_toArray, List.set_cons_zero, List.set_cons_succ]
          refine wpAnyH_ready (rs := [20]) (by kernel_rfl) (by simp) ?_
          refine AllReadyH.cons rfl (fun K hK => ?_) AllReadyH.nil
          go_simp
          refine backH hK ⟨(cell_setCell_ne _ _ _ _ _ (by simp <;> omega)).trans hHeld.1, (cell_setCell_ne _ _ _ _ _ (by simp <;> omega)).trans hHeld.2.1, (cell_setCell_ne _ _ _ _ _ (by simp <;> omega)).trans hHeld.2.2.1, (cell_setCell_ne _ _ _ _ _ (by simp <;> omega)).trans hHeld.2.2.2.1, (cell_setCell_ne _ _ _ _ _ (by simp <;> omega)).trans hHeld.2.2.2.2⟩ (fun hHeld => ?_)
          clear hK K
          try simp only [Act.put, List.setIfInBounds_toArray, List.set_cons_zero, List.set_cons_succ]
          refine wpAnyH_done (by kernel_rfl) ?_ _
          refine NoPanic.normal ?_
          go_wp2
          go_roundw
          case rel => exact ⟨k + 1, _, _, _, by omega, by go_num, by rw [HT.out]; exact HJ1.out, HB1.out.setCell (Nat.le_refl _) _⟩
          case measure => simp [intOf]; omega
        · go_simp
          refine backH hK (by exact (keepK (wr := wr) (key := key) HJ.out.blk (by repeat (first | exact Steady.refl _ _ | refine Steady.trans ?_ (Steady.drew _ _) | refine Steady.trans ?_ (Steady.alloc _ _ _)))).2) (fun hHeld => ?_)
          clear hK K
          try simp only [Act.put, List.setIfInBounds_toArray, List.set_cons_zero, List.set_cons_succ]
          refine wpAnyH_ready (rs := [4]) (by kernel_rfl) (by simp) ?_
          refine AllReadyH.cons rfl (fun K hK => ?_) AllReadyH.nil
          go_simp
          refine backH hK (by exact (keepK (wr := wr) (key := key) HJ.out.blk (by repeat (first | exact Steady.refl _ _ | refine Steady.trans ?_ (Steady.drew _ _) | refine Steady.trans ?_ (Steady.alloc _ _ _)))).2) (fun hHeld => ?_)
          clear hK K
          try simp only [Act.put, List.setIfInBounds_toArray, List.set_cons_zero, List.set_cons_succ]
          refine wpAnyH_ready (rs := [17]) (by kernel_rfl) (by simp) ?_
          refine AllReadyH.cons rfl (fun K hK => ?_) AllReadyH.nil
          refine step_append_lies _ (by rfl) _ _ _ (by rfl) (w.heap.size + 1) 62 i62 _ 3 40 Try.underlying56 hi62 hz62 hs62 hb62 rfl (by omega) (.slice ao k cap) k (tripCells ts) (by rfl) (by repeat (first | exact HJ.out.ownK | apply World.ownsRow.alloc | apply World.ownsRow.drew)) ⟨wr.heap.size + 1 + 1 + 1 + 1, 0, none⟩ 1 1 [Value.iface 65 (.pointer (some ⟨wr.heap.size + 1 + 1, 0, none⟩)), Value.iface 65 (.pointer (some ⟨wr.heap.size + 1 + 1 + 1, 0, none⟩)), .bool key.ns] (by rfl) (by rfl) (news3 _ _ _ _ _ (by simp; exact cell_last _ _ _ _ _ _ (by simp) rfl) (by simp; exact cell_last _ _ _ _ _ _ (by simp) rfl) (by simp; exact cell_last _ _ _ _ _ _ (by simp) rfl)) (by simp [Value.oneCell']) (by omega) (by unfold maxLen; omega) (by omega) (by simp <;> omega) (wr.heap.size + 1 + 1 + 1 + 1 + 1) (by simp) ?_
          intro g cap2 w1 hown1 hgrow hat hlt1
          have hst1 := Steady.grown (T := [62]) (base := w.heap.size + 1) (e := 62) (size := 3) (v := .slice ao k cap) (n := k) (xs := tripCells ts) (by repeat (first | exact HJ.out.ownK | apply World.ownsRow.alloc | apply World.ownsRow.drew)) hgrow (by decide)
          have hch : Steady [62] (wr.alloc (.cells #[.string key.lt, .string key.lc, .string key.rt, .string key.rc, .bool key.ns] 25)) w1 := Steady.trans (by repeat (first | exact Steady.refl _ _ | refine Steady.trans ?_ (Steady.drew _ _) | refine Steady.trans ?_ (Steady.alloc _ _ _))) hst1
          have hchY : Steady [62] ((((wr.alloc (.cells #[.string key.lt, .string key.lc, .string key.rt, .string key.rc, .bool key.ns] 25)).alloc (.cells #[Value.iface 65 (.pointer (some ⟨wr.heap.size + 1 + 1, 0, none⟩)), Value.iface 65 (.pointer (some ⟨wr.heap.size + 1 + 1 + 1, 0, none⟩)), .bool key.ns] 62)).alloc (.cells #[.string key.lt, .string key.lc] 67)).alloc (.cells #[.string key.rt, .string key.rc] 67)) w1 := Steady.trans (by repeat (first | exact Steady.refl _ _ | refine Steady.trans ?_ (Steady.drew _ _) | refine Steady.trans ?_ (Steady.alloc _ _ _))) hst1
          have hk1 := keepK (wr := wr) (key := key) HJ.out.blk hch
          have hJ1 := key_step (g := g) (cap2 := cap2) (key := key) HJ.out (Steady.trans (Steady.alloc _ _ _) hch) hchY (Steady.alloc [62] _ _ _ _ _ _ (by decide) (heap_at _ _ (wr.heap.size + 1 + 1) (by simp))) (heap_at _ _ (wr.heap.size + 1 + 1 + 1) (by simp)) hown1
          have hB1 : Below w.heap.size w w1 := Below.grown (by repeat (first | exact HB.out | apply Below.drew | refine Below.alloc ?_ (by first | omega | (simp <;> omega)) _)) hgrow (by simp <;> omega) (fun q hq => by have := (HJ.out.ownK.lt q hq).1; omega)
          have f1 := hk1.1
          have f2 : w1.frozen? ⟨w.heap.size, 1, none⟩ = false := frozen_of_block (hch w.heap.size _ _ _ (by decide) (Steady.alloc [62] wr _ _ _ _ _ (by decide) HJ.out.blk))
          have HJ1 : Hid _ := hJ1
          have HB1 : Hid _ := hB1
          have HT : Hid _ := keysCols_take_succ ks k key HK.out
          clear hst1 hch hchY hJ1 hB1 hgrow hown1 hat hlt1
          refine backH hK hk1.2 (fun hHeld => ?_)
          clear hK K
          try simp only [Act.put, List.setIfInBounds_toArray, List.set_cons_zero, List.set_cons_succ]
          refine wpAnyH_take (i := 18) (v := ?v18_3) rfl (by kernel_rfl) (by kernel_rfl) (by kernel_rfl) (fun _ _ _ h => h) (Or.inl ⟨by rfl, ?y18_3⟩) hHeld ?r18_3
          case y18_3 => (intro W hSw; clear hSw; go_simp; try with_reducible rfl)
          try simp only [Act.put, List.setIfInBounds_toArray, List.set_cons_zero, List.set_cons_succ]
          refine wpAnyH_take (i := 19) (v := ?v19_3) rfl (by kernel_rfl) (by kernel_rfl) (by kernel_rfl) (fun _ _ _ h => h) (Or.inl ⟨by rfl, ?y19_3⟩) hHeld ?r19_3
          case y19_3 => (intro W hSw; clear hSw; go_simp; try with_reducible rfl)
          try simp only [Act.put, List.setIfInBounds_toArray, List.set_cons_zero, List.set_cons_succ]
          refine wpAnyH_ready (rs := [20]) (by kernel_rfl) (by simp) ?_
          refine AllReadyH.cons rfl (fun K hK => ?_) AllReadyH.nil
          go_simp
          refine backH hK ⟨(cell_setCell_ne _ _ _ _ _ (by simp <;> omega)).trans hHeld.1, (cell_setCell_ne _ _ _ _ _ (by simp <;> omega)).trans hHeld.2.1, (cell_setCell_ne _ _ _ _ _ (by simp <;> omega)).trans hHeld.2.2.1, (cell_setCell_ne _ _ _ _ _ (by simp <;> omega)).trans hHeld.2.2.2.1, (cell_setCell_ne _ _ _ _ _ (by simp <;> omega)).trans hHeld.2.2.2.2⟩ (fun hHeld => ?_)
          clear hK K
          try simp only [Act.put, List.setIfInBounds_toArray, List.set_cons_zero, List.set_cons_succ]
          refine wpAnyH_done (by kernel_rfl) ?_ _
          refine NoPanic.normal ?_
          go_wp2
          go_roundw
          case rel => exact ⟨k + 1, _, _, _, by omega, by go_num, by rw [HT.out]; exact HJ1.out, HB1.out.setCell (Nat.le_refl _) _⟩
          case measure => simp [intOf]; omega

    · have ek : k = ks.length := by omega
      subst ek
      rw [List.take_length] at hJ
      go_wp2
      go_loopw [10] (fun i wr => ∃ (j : Nat) (aoC : Option Addr) (capC : Nat) (cs : List Value), j ≤ cond.length ∧ i = .int .i64 j ∧ JoinAt wr (w.heap.size + 1) w.heap.size kind ao aoC ks.length cap j capC ts cs (keysCols ks) (cond.take j) ∧ Below w.heap.size w wr) (fun i _ => cond.length - (intOf i).toNat)
      case atStart => exact ⟨0, none, 0, [], by omega, rfl, hJ, hB⟩
      case round =>
      clear hJ hB
      obtain ⟨j, aoC, capC, cs, hjl, rfl, hJ, hB⟩ := hrel
      by_cases hlt2 : j < cond.length
      rotate_left
      · have ej : j = cond.length := by omega
        subst ej
        rw [List.take_length] at hJ
        go_wp2
        go_ret
        exact ⟨rfl, ao, cap, aoC, capC, ts, cs, hJ, hB⟩
      obtain ⟨c, hc0⟩ : ∃ c, cond[j]? = some c := ⟨_, List.getElem?_eq_getElem hlt2⟩
      obtain ⟨b, off, hao, hcell⟩ := RC.out
      have hne : condCells cond ≠ [] := fun e => by have := flat_len colCells 2 (fun _ => rfl) cond; rw [show cond.flatMap colCells = [] from e] at this; simp at this; omega
      have hao' := hao hne
      subst hao'
      have q0 : w.cell? ⟨b, off + j * 2, none⟩ = some (.string c.1) := cond_cell hcell hc0 0 _ (by omega) rfl
      have q1 : w.cell? ⟨b, off + j * 2 + 1, none⟩ = some (.string c.2) := cond_cell hcell hc0 1 _ (by omega) rfl
      have b1 : (j : Int) < (cond.length : Int) := by omega
      have hN : w.heap.size < wr.heap.size := lt_of_block hJ.blk
      have HT : Hid _ := take_snoc_some cond j c hc0
      have HB : Hid (Below w.heap.size w wr) := hB
      have HJ : Hid (JoinAt wr (w.heap.size + 1) w.heap.size kind ao aoC ks.length cap j capC ts cs (keysCols ks) (cond.take j)) := hJ
      clear hJ hc0 hao hcell hne hB
      go_wp2
      refine wp_region_noPanic ?_
      refine wp_region_held_drew (S := fun W => W.cell? ⟨b, off + j * 2, none⟩ = some (.string c.1) ∧ W.cell? ⟨b, off + j * 2 + 1, none⟩ = some (.string c.2)) (by kernel_rfl) ?_ (fun hHeld => ?_)
      · exact keepC q0 q1 HB.out.drew
      refine wpAnyH_take (i := 0) (v := ?cv0_7) rfl (by kernel_rfl) (by kernel_rfl) (by kernel_rfl) (fun _ _ _ h => h) (Or.inl ⟨by rfl, ?cy0_7⟩) hHeld ?cr0_7
      case cy0_7 => (intro W hSw; obtain ⟨s0, s1⟩ := hSw; go_simp; try with_reducible rfl)
      try simp only [Act.put, List.setIfInBounds_toArray, List.set_cons_zero, List.set_cons_succ]
      refine wpAnyH_take (i := 1) (v := ?cv1_8) rfl (by kernel_rfl) (by kernel_rfl) (by kernel_rfl) (fun _ _ _ h => h) (Or.inl ⟨by rfl, ?cy1_8⟩) hHeld ?cr1_8
      case cy1_8 => (intro W hSw; obtain ⟨s0, s1⟩ := hSw; go_simp; try with_reducible rfl)
      try simp only [Act.put, List.setIfInBounds_toArray, List.set_cons_zero, List.set_cons_succ]
      refine wpAnyH_take (i := 2) (v := ?cv2_9) rfl (by kernel_rfl) (by kernel_rfl) (by kernel_rfl) (fun _ _ _ h => h) (Or.inl ⟨by rfl, ?cy2_9⟩) hHeld ?cr2_9
      case cy2_9 => (intro W hSw; obtain ⟨s0, s1⟩ := hSw; go_simp; try with_reducible rfl)
      try simp only [Act.put, List.setIfInBounds_toArray, List.set_cons_zero, List.set_cons_succ]
      refine wpAnyH_take (i := 3) (v := ?cv3_10) rfl (by kernel_rfl) (by kernel_rfl) (by kernel_rfl) (fun _ _ _ h => h) (Or.inl ⟨by rfl, ?cy3_10⟩) hHeld ?cr3_10
      case cy3_10 => (intro W hSw; obtain ⟨s0, s1⟩ := hSw; go_simp; try with_reducible rfl)
      try simp only [Act.put, List.setIfInBounds_toArray, List.set_cons_zero, List.set_cons_succ]
      refine wpAnyH_take (i := 5) (v := ?cv5_11) rfl (by kernel_rfl) (by kernel_rfl) (by kernel_rfl) (fun _ _ _ h => h) (Or.inl ⟨by rfl, ?cy5_11⟩) hHeld ?cr5_11
      case cy5_11 => (intro W hSw; obtain ⟨s0, s1⟩ := hSw; go_simp; try with_reducible rfl)
      try simp only [Act.put, List.setIfInBounds_toArray, List.set_cons_zero, List.set_cons_succ]
      refine wpAnyH_take (i := 6) (v := ?cv6_12) rfl (by kernel_rfl) (by kernel_rfl) (by kernel_rfl) (fun _ _ _ h => h) (Or.inl ⟨by rfl, ?cy6_12⟩) hHeld ?cr6_12
      case cy6_12 => (intro W hSw; obtain ⟨s0, s1⟩ := hSw; go_simp; try with_reducible rfl)
      try simp only [Act.put, List.setIfInBounds_toArray, List.set_cons_zero, List.set_cons_succ]
      refine wpAnyH_take (i := 7) (v := ?cv7_13) rfl (by kernel_rfl) (by kernel_rfl) (by kernel_rfl) (fun _ _ _ h => h) (Or.inl ⟨by rfl, ?cy7_13⟩) hHeld ?cr7_13
      case cy7_13 => (intro W hSw; obtain ⟨s0, s1⟩ := hSw; go_simp; try with_reducible rfl)
      try simp only [Act.put, List.setIfInBounds_toArray, List.set_cons_zero, List.set_cons_succ]
      refine wpAnyH_take (i := 8) (v := ?cv8_14) rfl (by kernel_rfl) (by kernel_rfl) (by kernel_rfl) (fun _ _ _ h => h) (Or.inl ⟨by rfl, ?cy8_14⟩) hHeld ?cr8_14
      case cy8_14 => (intro W hSw; obtain ⟨s0, s1⟩ := hSw; go_simp; try with_reducible rfl)
      try simp only [Act.put, List.setIfInBounds_toArray, List.set_cons_zero, List.set_cons_succ]
      refine wpAnyH_take (i := 9) (v := ?cv9_15) rfl (by kernel_rfl) (by kernel_rfl) (by kernel_rfl) (fun _ _ _ h => h) (Or.inl ⟨by rfl, ?cy9_15⟩) hHeld ?cr9_15
      case cy9_15 => (intro W hSw; obtain ⟨s0, s1⟩ := hSw; go_simp; try with_reducible rfl)
      try simp only [Act.put, List.setIfInBounds_toArray, List.set_cons_zero, List.set_cons_succ]
      refine wpAnyH_take (i := 10) (v := ?cv10_16) rfl (by kernel_rfl) (by kernel_rfl) (by kernel_rfl) (fun _ _ _ h => h) (Or.inl ⟨by rfl, ?cy10_16⟩) hHeld ?cr10_16
      case cy10_16 => (intro W hSw; obtain ⟨s0, s1⟩ := hSw; go_simp; try with_reducible rfl)
      try simp only [Act.put, List.setIfInBounds_toArray, List.set_cons_zero, List.set_cons_succ]
      refine wpAnyH_take (i := 11) (v := ?cv11_17) rfl (by kernel_rfl) (by kernel_rfl) (by kernel_rfl) (fun _ _ _ h => h) (Or.inl ⟨by rfl, ?cy11_17⟩) hHeld ?cr11_17
      case cy11_17 => (intro W hSw; obtain ⟨s0, s1⟩ := hSw; go_simp; try with_reducible rfl)
      try simp only [Act.put, List.setIfInBounds_toArray, List.set_cons_zero, List.set_cons_succ]
      refine wpAnyH_take (i := 12) (v := ?cv12_18) rfl (by kernel_rfl) (by kernel_rfl) (by kernel_rfl) (fun _ _ _ h => h) (Or.inl ⟨by rfl, ?cy12_18⟩) hHeld ?cr12_18
      case cy12_18 => (intro W hSw; obtain ⟨s0, s1⟩ := hSw; go_simp; try with_reducible rfl)
      try simp only [Act.put, List.setIfInBounds_toArray, List.set_cons_zero, List.set_cons_succ]
      refine wpAnyH_take (i := 13) (v := ?cv13_19) rfl (by kernel_rfl) (by kernel_rfl) (by kernel_rfl) (fun _ _ _ h => h) (Or.inl ⟨by rfl, ?cy13_19⟩) hHeld ?cr13_19
      case cy13_19 => (intro W hSw; obtain ⟨s0, s1⟩ := hSw; go_simp; try with_reducible rfl)
      try simp only [Act.put, List.setIfInBounds_toArray, List.set_cons_zero, List.set_cons_succ]
      refine wpAnyH_take (i := 14) (v := ?cv14_20) rfl (by kernel_rfl) (by kernel_rfl) (by kernel_rfl) (fun _ _ _ h => h) (Or.inl ⟨by rfl, ?cy14_20⟩) hHeld ?cr14_20
      case cy14_20 => (intro W hSw; obtain ⟨s0, s1⟩ := hSw; go_simp; try with_reducible rfl)
      try simp only [Act.put, List.setIfInBounds_toArray, List.set_cons_zero, List.set_cons_succ]
      have cN : wr.cell? ⟨w.heap.size, 2, none⟩ = some (.slice aoC j capC) := by simp [World.cell?, HJ.out.blk]
      have cN1 : ∀ A, (wr.alloc A).cell? ⟨w.heap.size, 2, none⟩ = some (.slice aoC j capC) := fun A => cell_later ((Below.refl _ _).alloc (Nat.le_refl _) _) cN
      have cN2 : ∀ A B, ((wr.alloc A).alloc B).cell? ⟨w.heap.size, 2, none⟩ = some (.slice aoC j capC) := fun A B => cell_later (((Below.refl _ _).alloc (Nat.le_refl _) _).alloc (by simp) _) cN
      refine wpAnyH_ready (rs := [4, 15]) (by kernel_rfl) (by simp) ?_
      refine AllReadyH.cons rfl (fun K hK => ?_) (AllReadyH.cons rfl (fun K hK => ?_) AllReadyH.nil)
      · go_simp
        refine backH hK (by exact keepC q0 q1 (by repeat (first | exact HB.out | apply Below.drew | refine Below.alloc ?_ (by first | omega | (simp <;> omega)) _))) (fun hHeld => ?_)
        clear hK K
        try simp only [Act.put, List.setIfInBounds_toArray, List.set_cons_zero, List.set_cons_succ]
        refine wpAnyH_ready (rs := [15]) (by kernel_rfl) (by simp) ?_
        refine AllReadyH.cons rfl (fun K hK => ?_) AllReadyH.nil
        go_simp
        refine (columnExpr_any _ _ _).mono ?_
        rintro e w' ⟨rfl, rfl⟩
        go_wp2_with fail
        refine backH hK (by exact keepC q0 q1 (by repeat (first | exact HB.out | apply Below.drew | refine Below.alloc ?_ (by first | omega | (simp <;> omega)) _))) (fun hHeld => ?_)
        clear hK K
        try simp only [Act.put, List.setIfInBounds_toArray, List.set_cons_zero, List.set_cons_succ]
        refine wpAnyH_ready (rs := [16]) (by kernel_rfl) (by simp) ?_
        refine AllReadyH.cons rfl (fun K hK => ?_) AllReadyH.nil
        go_simp
        refine backH hK (by exact keepC q0 q1 (by repeat (first | exact HB.out | apply Below.drew | refine Below.alloc ?_ (by first | omega | (simp <;> omega)) _))) (fun hHeld => ?_)
        clear hK K
        try simp only [Act.put, List.setIfInBounds_toArray, List.set_cons_zero, List.set_cons_succ]
        refine wpAnyH_ready (rs := [17]) (by kernel_rfl) (by simp) ?_
        refine AllReadyH.cons rfl (fun K hK => ?_) AllReadyH.nil
        refine step_append_lies _ (by rfl) _ _ _ (by rfl) (w.heap.size + 1) 35 i35 _ 1 16 Try.underlying28 hi35 hz35 hs35 hb35 rfl (by omega) (.slice aoC j capC) j cs (by rfl) (by repeat (first | exact HJ.out.ownC | apply World.ownsRow.alloc | apply World.ownsRow.drew)) ⟨wr.heap.size + 1, 0, none⟩ 1 1 [Value.iface 65 (.pointer (some ⟨wr.heap.size, 0, none⟩))] (by rfl) (by rfl) (news1 _ _ _ (by first | (simp; done) | (simp; exact cell_last _ _ _ _ _ _ (by simp) rfl))) (by simp [Value.oneCell']) (by omega) (by unfold maxLen; omega) (by omega) (by simp <;> omega) (wr.heap.size + 1 + 1) (by simp) ?_
        intro g cap2 w1 hown1 hgrow hat hlt1
        have hst1 := Steady.grown (T := [35]) (base := w.heap.size + 1) (e := 35) (size := 1) (v := .slice aoC j capC) (n := j) (xs := cs) (by repeat (first | exact HJ.out.ownC | apply World.ownsRow.alloc | apply World.ownsRow.drew)) hgrow (by decide)
        have hch : Steady [35] wr w1 := Steady.trans (by repeat (first | exact Steady.refl _ _ | refine Steady.trans ?_ (Steady.drew _ _) | refine Steady.trans ?_ (Steady.alloc _ _ _))) hst1
        have hchY : Steady [35] (wr.alloc (.cells #[.string c.1, .string c.2] 67)) w1 := Steady.trans (by repeat (first | exact Steady.refl _ _ | refine Steady.trans ?_ (Steady.drew _ _) | refine Steady.trans ?_ (Steady.alloc _ _ _))) hst1
        have hJ1 := cond_step (g := g) (cap2 := cap2) (c := c) HJ.out hch hchY (heap_at _ _ wr.heap.size rfl) hown1
        have hB1 : Below w.heap.size w w1 := Below.grown (by repeat (first | exact HB.out | apply Below.drew | refine Below.alloc ?_ (by first | omega | (simp <;> omega)) _)) hgrow (by simp <;> omega) (fun q hq => by have := (HJ.out.ownC.lt q hq).1; omega)
        have f1 : w1.cell? ⟨w.heap.size, 2, none⟩ = some (.slice aoC j capC) := by simp [World.cell?, hch w.heap.size _ _ _ (by decide) HJ.out.blk]
        have f2 : w1.frozen? ⟨w.heap.size, 2, none⟩ = false := frozen_of_block (hch w.heap.size _ _ _ (by decide) HJ.out.blk)
        have hk1 := keepC q0 q1 hB1
        have HJ1 : Hid _ := hJ1
        have HB1 : Hid _ := hB1
        clear hst1 hch hchY hJ1 hB1 hgrow hown1 hat hlt1
        refine backH hK hk1 (fun hHeld => ?_)
        clear hK K
        try simp only [Act.put, List.setIfInBounds_toArray, List.set_cons_zero, List.set_cons_succ]
        refine wpAnyH_take (i := 18) (v := ?cv18_1) rfl (by kernel_rfl) (by kernel_rfl) (by kernel_rfl) (fun _ _ _ h => h) (Or.inl ⟨by rfl, ?cy18_1⟩) hHeld ?cr18_1
        case cy18_1 => (intro W hSw; clear hSw; go_simp; try with_reducible rfl)
        try simp only [Act.put, List.setIfInBounds_toArray, List.set_cons_zero, List.set_cons_succ]
        refine wpAnyH_take (i := 19) (v := ?cv19_2) rfl (by kernel_rfl) (by kernel_rfl) (by kernel_rfl) (fun _ _ _ h => h) (Or.inl ⟨by rfl, ?cy19_2⟩) hHeld ?cr19_2
        case cy19_2 => (intro W hSw; clear hSw; go_simp; try with_reducible rfl)
        try simp only [Act.put, List.setIfInBounds_toArray, List.set_cons_zero, List.set_cons_succ]
        refine wpAnyH_ready (rs := [20]) (by kernel_rfl) (by simp) ?_
        refine AllReadyH.cons rfl (fun K hK => ?_) AllReadyH.nil
        go_simp
        refine backH hK (keepC q0 q1 (HB1.out.setCell (Nat.le_refl _) _)) (fun hHeld => ?_)
        clear hK K
        try simp only [Act.put, List.setIfInBounds_toArray, List.set_cons_zero, List.set_cons_succ]
        refine wpAnyH_done (by kernel_rfl) ?_ _
        refine NoPanic.normal ?_
        go_wp2
        go_roundw
        case rel => exact ⟨j + 1, _, _, _, by omega, by go_num, by rw [HT.out]; exact HJ1.out, HB1.out.setCell (Nat.le_refl _) _⟩
        case measure => simp [intOf]; omega
      · go_simp
        refine (columnExpr_any _ _ _).mono ?_
        rintro e w' ⟨rfl, rfl⟩
        go_wp2_with fail
        refine backH hK (by exact keepC q0 q1 (by repeat (first | exact HB.out | apply Below.drew | refine Below.alloc ?_ (by first | omega | (simp <;> omega)) _))) (fun hHeld => ?_)
        clear hK K
        try simp only [Act.put, List.setIfInBounds_toArray, List.set_cons_zero, List.set_cons_succ]
        refine wpAnyH_ready (rs := [4, 16]) (by kernel_rfl) (by simp) ?_
        refine AllReadyH.cons rfl (fun K hK => ?_) (AllReadyH.cons rfl (fun K hK => ?_) AllReadyH.nil)
        · go_simp
          refine backH hK (by exact keepC q0 q1 (by repeat (first | exact HB.out | apply Below.drew | refine Below.alloc ?_ (by first | omega | (simp <;> omega)) _))) (fun hHeld => ?_)
          clear hK K
          try simp only [Act.put, List.setIfInBounds_toArray, List.set_cons_zero, List.set_cons_succ]
          refine wpAnyH_ready (rs := [16]) (by kernel_rfl) (by simp) ?_
          refine AllReadyH.cons rfl (fun K hK => ?_) AllReadyH.nil
          go_simp
          refine backH hK (by exact keepC q0 q1 (by repeat (first | exact HB.out | apply Below.drew | refine Below.alloc ?_ (by first | omega | (simp <;> omega)) _))) (fun hHeld => ?_)
          clear hK K
          try simp only [Act.put, List.setIfInBounds_toArray, List.set_cons_zero, List.set_cons_succ]
          refine wpAnyH_ready (rs := [17]) (by kernel_rfl) (by simp) ?_
          refine AllReadyH.cons rfl (fun K hK => ?_) AllReadyH.nil
          refine step_append_lies _ (by rfl) _ _ _ (by rfl) (w.heap.size + 1) 35 i35 _ 1 16 Try.underlying28 hi35 hz35 hs35 hb35 rfl (by omega) (.slice aoC j capC) j cs (by rfl) (by repeat (first | exact HJ.out.ownC | apply World.ownsRow.alloc | apply World.ownsRow.drew)) ⟨wr.heap.size + 1, 0, none⟩ 1 1 [Value.iface 65 (.pointer (some ⟨wr.heap.size, 0, none⟩))] (by rfl) (by rfl) (news1 _ _ _ (by first | (simp; done) | (simp; exact cell_last _ _ _ _ _ _ (by simp) rfl))) (by simp [Value.oneCell']) (by omega) (by unfold maxLen; omega) (by omega) (by simp <;> omega) (wr.heap.size + 1 + 1) (by simp) ?_
          intro g cap2 w1 hown1 hgrow hat hlt1
          have hst1 := Steady.grown (T := [35]) (base := w.heap.size + 1) (e := 35) (size := 1) (v := .slice aoC j capC) (n := j) (xs := cs) (by repeat (first | exact HJ.out.ownC | apply World.ownsRow.alloc | apply World.ownsRow.drew)) hgrow (by decide)
          have hch : Steady [35] wr w1 := Steady.trans (by repeat (first | exact Steady.refl _ _ | refine Steady.trans ?_ (Steady.drew _ _) | refine Steady.trans ?_ (Steady.alloc _ _ _))) hst1
          have hchY : Steady [35] (wr.alloc (.cells #[.string c.1, .string c.2] 67)) w1 := Steady.trans (by repeat (first | exact Steady.refl _ _ | refine Steady.trans ?_ (Steady.drew _ _) | refine Steady.trans ?_ (Steady.alloc _ _ _))) hst1
          have hJ1 := cond_step (g := g) (cap2 := cap2) (c := c) HJ.out hch hchY (heap_at _ _ wr.heap.size rfl) hown1
          have hB1 : Below w.heap.size w w1 := Below.grown (by repeat (first | exact HB.out | apply Below.drew | refine Below.alloc ?_ (by first | omega | (simp <;> omega)) _)) hgrow (by simp <;> omega) (fun q hq => by have := (HJ.out.ownC.lt q hq).1; omega)
          have f1 : w1.cell? ⟨w.heap.size, 2, none⟩ = some (.slice aoC j capC) := by simp [World.cell?, hch w.heap.size _ _ _ (by decide) HJ.out.blk]
          have f2 : w1.frozen? ⟨w.heap.size, 2, none⟩ = false := frozen_of_block (hch w.heap.size _ _ _ (by decide) HJ.out.blk)
          have hk1 := keepC q0 q1 hB1
          have HJ1 : Hid _ := hJ1
          have HB1 : Hid _ := hB1
          clear hst1 hch hchY hJ1 hB1 hgrow hown1 hat hlt1
          refine backH hK hk1 (fun hHeld => ?_)
          clear hK K
          try simp only [Act.put, List.setIfInBounds_toArray, List.set_cons_zero, List.set_cons_succ]
          refine wpAnyH_take (i := 18) (v := ?cv18_3) rfl (by kernel_rfl) (by kernel_rfl) (by kernel_rfl) (fun _ _ _ h => h) (Or.inl ⟨by rfl, ?cy18_3⟩) hHeld ?cr18_3
          case cy18_3 => (intro W hSw; clear hSw; go_simp; try with_reducible rfl)
          try simp only [Act.put, List.setIfInBounds_toArray, List.set_cons_zero, List.set_cons_succ]
          refine wpAnyH_take (i := 19) (v := ?cv19_4) rfl (by kernel_rfl) (by kernel_rfl) (by kernel_rfl) (fun _ _ _ h => h) (Or.inl ⟨by rfl, ?cy19_4⟩) hHeld ?cr19_4
          case cy19_4 => (intro W hSw; clear hSw; go_simp; try with_reducible rfl)
          try simp only [Act.put, List.setIfInBounds_toArray, List.set_cons_zero, List.set_cons_succ]
          refine wpAnyH_ready (rs := [20]) (by kernel_rfl) (by simp) ?_
          refine AllReadyH.cons rfl (fun K hK => ?_) AllReadyH.nil
          go_simp
          refine backH hK (keepC q0 q1 (HB1.out.setCell (Nat.le_refl _) _)) (fun hHeld => ?_)
          clear hK K
          try simp only [Act.put, List.setIfInBounds_toArray, List.set_cons_zero, List.set_cons_succ]
          refine wpAnyH_done (by kernel_rfl) ?_ _
          refine NoPanic.normal ?_
          go_wp2
          go_roundw
          case rel => exact ⟨j + 1, _, _, _, by omega, by go_num, by rw [HT.out]; exact HJ1.out, HB1.out.setCell (Nat.le_refl _) _⟩
          case measure => simp [intOf]; omega
        · go_simp
          refine backH hK (by exact keepC q0 q1 (by repeat (first | exact HB.out | apply Below.drew | refine Below.alloc ?_ (by first | omega | (simp <;> omega)) _))) (fun hHeld => ?_)
          clear hK K
          try simp only [Act.put, List.setIfInBounds_toArray, List.set_cons_zero, List.set_cons_succ]
          refine wpAnyH_ready (rs := [4]) (by kernel_rfl) (by simp) ?_
          refine AllReadyH.cons rfl (fun K hK => ?_) AllReadyH.nil
          go_simp
          refine backH hK (by exact keepC q0 q1 (by repeat (first | exact HB.out | apply Below.drew | refine Below.alloc ?_ (by first | omega | (simp <;> omega)) _))) (fun hHeld => ?_)
          clear hK K
          try simp only [Act.put, List.setIfInBounds_toArray, List.set_cons_zero, List.set_cons_succ]
          refine wpAnyH_ready (rs := [17]) (by kernel_rfl) (by simp) ?_
          refine AllReadyH.cons rfl (fun K hK => ?_) AllReadyH.nil
          refine step_append_lies _ (by rfl) _ _ _ (by rfl) (w.heap.size + 1) 35 i35 _ 1 16 Try.underlying28 hi35 hz35 hs35 hb35 rfl (by omega) (.slice aoC j capC) j cs (by rfl) (by repeat (first | exact HJ.out.ownC | apply World.ownsRow.alloc | apply World.ownsRow.drew)) ⟨wr.heap.size + 1, 0, none⟩ 1 1 [Value.iface 65 (.pointer (some ⟨wr.heap.size, 0, none⟩))] (by rfl) (by rfl) (news1 _ _ _ (by first | (simp; done) | (simp; exact cell_last _ _ _ _ _ _ (by simp) rfl))) (by simp [Value.oneCell']) (by omega) (by unfold maxLen; omega) (by omega) (by simp <;> omega) (wr.heap.size + 1 + 1) (by simp) ?_
          intro g cap2 w1 hown1 hgrow hat hlt1
          have hst1 := Steady.grown (T := [35]) (base := w.heap.size + 1) (e := 35) (size := 1) (v := .slice aoC j capC) (n := j) (xs := cs) (by repeat (first | exact HJ.out.ownC | apply World.ownsRow.alloc | apply World.ownsRow.drew)) hgrow (by decide)
          have hch : Steady [35] wr w1 := Steady.trans (by repeat (first | exact Steady.refl _ _ | refine Steady.trans ?_ (Steady.drew _ _) | refine Steady.trans ?_ (Steady.alloc _ _ _))) hst1
          have hchY : Steady [35] (wr.alloc (.cells #[.string c.1, .string c.2] 67)) w1 := Steady.trans (by repeat (first | exact Steady.refl _ _ | refine Steady.trans ?_ (Steady.drew _ _) | refine Steady.trans ?_ (Steady.alloc _ _ _))) hst1
          have hJ1 := cond_step (g := g) (cap2 := cap2) (c := c) HJ.out hch hchY (heap_at _ _ wr.heap.size rfl) hown1
          have hB1 : Below w.heap.size w w1 := Below.grown (by repeat (first | exact HB.out | apply Below.drew | refine Below.alloc ?_ (by first | omega | (simp <;> omega)) _)) hgrow (by simp <;> omega) (fun q hq => by have := (HJ.out.ownC.lt q hq).1; omega)
          have f1 : w1.cell? ⟨w.heap.size, 2, none⟩ = some (.slice aoC j capC) := by simp [World.cell?, hch w.heap.size _ _ _ (by decide) HJ.out.blk]
          have f2 : w1.frozen? ⟨w.heap.size, 2, none⟩ = false := frozen_of_block (hch w.heap.size _ _ _ (by decide) HJ.out.blk)
          have hk1 := keepC q0 q1 hB1
          have HJ1 : Hid _ := hJ1
          have HB1 : Hid _ := hB1
          clear hst1 hch hchY hJ1 hB1 hgrow hown1 hat hlt1
          refine backH hK hk1 (fun hHeld => ?_)
          clear hK K
          try simp only [Act.put, List.setIfInBounds_toArray, List.set_cons_zero, List.set_cons_succ]
          refine wpAnyH_take (i := 18) (v := ?cv18_5) rfl (by kernel_rfl) (by kernel_rfl) (by kernel_rfl) (fun _ _ _ h => h) (Or.inl ⟨by rfl, ?cy18_5⟩) hHeld ?cr18_5
          case cy18_5 => (intro W hSw; clear hSw; go_simp; try with_reducible rfl)
          try simp only [Act.put, List.setIfInBounds_toArray, List.set_cons_zero, List.set_cons_succ]
          refine wpAnyH_take (i := 19) (v := ?cv19_6) rfl (by kernel_rfl) (by kernel_rfl) (by kernel_rfl) (fun _ _ _ h => h) (Or.inl ⟨by rfl, ?cy19_6⟩) hHeld ?cr19_6
          case cy19_6 => (intro W hSw; clear hSw; go_simp; try with_reducible rfl)
          try simp only [Act.put, List.setIfInBounds_toArray, List.set_cons_zero, List.set_cons_succ]
          refine wpAnyH_ready (rs := [20]) (by kernel_rfl) (by simp) ?_
          refine AllReadyH.cons rfl (fun K hK => ?_) AllReadyH.nil
          go_simp
          refine backH hK (keepC q0 q1 (HB1.out.setCell (Nat.le_refl _) _)) (fun hHeld => ?_)
          clear hK K
          try simp only [Act.put, List.setIfInBounds_toArray, List.set_cons_zero, List.set_cons_succ]
          refine wpAnyH_done (by kernel_rfl) ?_ _
          refine NoPanic.normal ?_
          go_wp2
          go_roundw
          case rel => exact ⟨j + 1, _, _, _, by omega, by go_num, by rw [HT.out]; exact HJ1.out, HB1.out.setCell (Nat.le_refl _) _⟩
          case measure => simp [intOf]; omega

end Go.Proofs.Qxb6614899a
