/-
  THE WALK OF FnSkipContainerMatchesGrammar (4), within its bounds.
-/
import Derived.Test.Qxb6616012aGZ
import Derived.Laws.CopyOwn
import Derived.Lib.LazyBuf
namespace Go.Proofs.Qxb6616012a.G
open Go.RowKit

theorem full_block {w : World} {base g n : Nat} {xs : List Value} (h : w.ownsRow base 5 1 (.slice (some ⟨g, 0, none⟩) n n) n xs) : ∃ cur, w.heap[g]? = some (.cells cur 5 (0, 0)) ∧ cur.size = n := by
  rcases h.2 with ⟨h', _⟩ | ⟨g', c, cur, hv, _, hg, _, _, h3, _⟩
  · cases h'
  · cases hv
    exact ⟨cur, hg, by omega⟩
theorem src_cell {w w2 : World} {b off n : Nat} {D : Nat → Int} (h : ∀ i, i < n → w.cell? ⟨b, off + i, none⟩ = some (.int .u8 (D i))) (hB : Below w.heap.size w w2) (j : Nat) (v : Value) (hj : ((List.range n).map fun i => Value.int .u8 (D i))[j]? = some v) : w2.cell? ((⟨b, off, none⟩ : Addr).add j) = some v := by
  have hjn : j < n := by have := (List.getElem?_eq_some_iff.1 hj).1; simpa using this
  rw [WideShapes.add_plain]
  have h0 := h j hjn
  have hlt : b < w.heap.size := by
    rcases Nat.lt_or_ge b w.heap.size with hl | hl
    · exact hl
    · simp [World.cell?, Array.getElem?_eq_none hl] at h0
  rw [World.cell?_of_block (w := w) (hB.block b hlt), h0]
  simpa [hjn] using hj
theorem setRow_dat {w2 : World} {g n : Nat} {D : Nat → Int} {cur : Array Value} (hcur : w2.heap[g]? = some (.cells cur 5 (0, 0))) :
    Dat (w2.setRow g (cur.toList.take 0 ++ (((List.range n).map fun i => Value.int .u8 (D i)) ++ cur.toList.drop (0 + ((List.range n).map fun i => Value.int .u8 (D i)).length))).toArray) g n D := by
  intro i hi
  simp [World.cell?, World.setRow, Array.getElem?_modify, hcur]
  rw [List.getElem?_append_left (by simpa using hi)]
  simp [hi]

set_option maxHeartbeats 1000000 in
set_option maxRecDepth 100000 in
theorem main_walk (b off n cap : Nat) (D : Nat → Int) (hby : ∀ i, 0 ≤ D i ∧ D i < 256) (w : World) (hsrc : ∀ i, i < n → w.cell? ⟨b, off + i, none⟩ = some (.int .u8 (D i))) (hn : n ≤ 1048576) (p : Nat) (hp : p < n) (ho : D p = 123 ∨ D p = 91) (dep : Nat) (hd : dep ≤ 10000) :
    Calls Try.prog 4 #[.slice (some ⟨b, off, none⟩) n cap, .int .i64 p, .int .i64 dep] w fun e w' => e = .returned (.bool true) ∧ Below w.heap.size w w' := by
  obtain ⟨i5, hi5, hz5, hs5, hb5⟩ := info_parts Try.info5
  have q28 : ∀ (w : World) (a : Option Addr) (n c : Nat), (binOp .neq 28 (.slice a n c) (.slice none 0 0)).run Try.prog w = .ok (.bool (!a.isNone)) w := fun w a n c => Go.run_neq_slice_nil w _ _ a n c Try.underlying28
  have hd0 := hsrc p hp
  have b1 : decide ((1048576 : Int) < (n : Int)) = false := by simp; omega
  have b2 : decide ((p : Int) < 0) = false := by simp
  have b3 : decide ((n : Int) ≤ (p : Int)) = false := by simp; omega
  have b4 : (p : Int) < (n : Int) := by omega
  have b5 : decide ((dep : Int) < 0) = false := by simp
  have b6 : decide ((10000 : Int) < (dep : Int)) = false := by simp; omega
  have HSRC : Hid (∀ i, i < n → w.cell? ⟨b, off + i, none⟩ = some (.int .u8 (D i))) := hsrc
  have HO : Hid (D p = 123 ∨ D p = 91) := ho
  clear hsrc
  have HR : Hid (∀ (j : Nat), val D n p dep = .ok j → p < j ∧ j ≤ n) := fun j h => val_n D n h
  rcases ho with ho | ho <;> rw [ho] at hd0 <;> clear ho
  all_goals
    go_enter Try.func4, Try.ntmps4
    go_wp2_with fail
    refine (bytes10_yes _ _ _ _ _ _ hn).mono ?_
    rintro e w1 ⟨rfl, rfl⟩
    go_wp2_with (first
      | (at_make; refine wpList_make_full _ rfl _ _ 28 rfl w.heap.size 5 i5 _ 1 Try.underlying28 hi5 hz5 hs5 .i64 .i64 _ _ n rfl rfl rfl rfl (by rw [hb5]; omega) (by unfold maxLen; omega) (Nat.le_refl _) ?_; intro w2 own2 gr2; obtain ⟨cur, hcur, hsz⟩ := full_block own2; have hB2 : Below w.heap.size w w2 := (Below.refl _ _).grown gr2 (Nat.le_refl _) (fun k hk => by cases hk))
      | (refine wpList_copy_own rfl (.tmp 54) (.tmp 55) 28 28 rfl 5 Try.underlying28 (by rw [hi5]; simp [hs5]) w.heap.size 0 n n ⟨b, off, none⟩ n cap rfl rfl cur 5 hcur ((List.range n).map fun i => .int .u8 (D i)) (by simp) (fun j v hj => src_cell HSRC.out hB2 j v hj) (by simp; omega) (by simp [Value.oneCell']) ?_; have hD3 := setRow_dat (n := n) (D := D) hcur; have hB3 := below_setRow hB2 (Nat.le_refl _) (cur.toList.take 0 ++ (((List.range n).map fun i => Value.int .u8 (D i)) ++ cur.toList.drop (0 + ((List.range n).map fun i => Value.int .u8 (D i)).length))).toArray; have hz3 := (lt_of_block hcur)))
    have hD : Dat (w2.setRow w.heap.size (List.map (fun i => Value.int IntKind.u8 (D i)) (List.range n) ++ List.drop n cur.toList).toArray) w.heap.size n D := by simpa using hD3
    have hBm : Below w.heap.size w (w2.setRow w.heap.size (List.map (fun i => Value.int IntKind.u8 (D i)) (List.range n) ++ List.drop n cur.toList).toArray) := by simpa using hB3
    have hz : w.heap.size < (w2.setRow w.heap.size (List.map (fun i => Value.int IntKind.u8 (D i)) (List.range n) ++ List.drop n cur.toList).toArray).heap.size := by simpa [World.setRow] using hz3
    clear hD3 hB3 hz3
    generalize w2.setRow w.heap.size (List.map (fun i => Value.int IntKind.u8 (D i)) (List.range n) ++ List.drop n cur.toList).toArray = w3 at *
    refine (zzSkip_any w.heap.size n n D hby dep p w3 hD (Nat.le_refl _) hp hn hd HO.out hz).mono ?_
    rintro e w4 ⟨hB4, b', q, f, rfl, hR⟩
    have hD4 : Dat w4 w.heap.size n D := fun i hi => (World.cell?_of_block (w := w3) (hB4.block _ hz)).trans (hD i hi)
    have HB : Hid (Below w.heap.size w w4) := hBm.trans (hB4.mono (by omega))
    clear hD hBm hB4 hB2 own2 gr2 hcur hsz
    go_wp2_with fail
    refine (zzValue_any w.heap.size n n D hn p dep w4 (by omega) hd hD4).mono ?_
    rintro e w5 ⟨hT, k, rfl⟩
    clear hD4
    rcases hR with ⟨rfl, rfl, hv⟩ | ⟨rfl, hv, hq1, hq2⟩
    · rw [hv] at hT
      have hT' : e = .returned (.tuple #[.int .i64 (q : Nat), .bool true, .bool false]) := hT
      subst hT'
      clear hT hv
      go_wp2
      go_ret
      exact ⟨rfl, HB.out.trans ⟨rfl, rfl, rfl, Nat.le_refl _, fun _ _ => rfl⟩⟩
    · rw [hv] at hT
      obtain ⟨z, rfl⟩ := hT
      have b7 : (p : Int) ≤ (q : Int) := by omega
      have b8 : (q : Int) ≤ (n : Int) := by omega
      clear hv
      cases f
      all_goals
        go_wp2
        go_ret
        exact ⟨by first | rfl | simp, HB.out.trans ⟨rfl, rfl, rfl, Nat.le_refl _, fun _ _ => rfl⟩⟩
#print axioms main_walk
end Go.Proofs.Qxb6616012a.G
