/-
  THE WALK OF FnTakesNoFreshEachCall (3).
-/
import Derived.Test.Qxb6616012aProg
import Derived.WalkKit
import Derived.WalkLawsBesides
import Derived.WalkSpells
import Derived.OwnWalk
import Derived.Lib.SliceRun
import Derived.LaidEqlPtr
import Derived.Deep.QuietTactic
import Derived.BigQuiet
import Derived.Outline
namespace Go.Proofs.Qxb6616012a
open Go.RowKit

theorem bytes6_yes (s : ByteArray) (w : World) (h : s.size ≤ 1048576) : Calls Try.prog 6 #[.string s] w fun e w' => e = .returned (.bool true) ∧ w = w' := by
  go_enter Try.func6, Try.ntmps6
  go_wp2
  go_ret
  exact ⟨rfl, rfl⟩
theorem bytes6_no (s : ByteArray) (w : World) (h : 1048576 < s.size) : Calls Try.prog 6 #[.string s] w fun e w' => e = .returned (.bool false) ∧ w = w' := by
  go_enter Try.func6, Try.ntmps6
  go_wp2
  go_ret
  exact ⟨rfl, rfl⟩

/-- ZZTakesNo: a new Misfit over a new array of one step. -/
theorem takesNo_any (s : ByteArray) (w : World) :
    Calls Try.prog 7 #[.string s] w fun e w' => e = .returned (.pointer (some ⟨w.heap.size + 1, 0, none⟩)) ∧
      w' = (w.alloc (.cells #[.string s, .bool false, .int .i64 0, .slice none 0 0] 41)).alloc (.cells #[.bool false, .slice (some ⟨w.heap.size, 0, none⟩) 1 1] 44) := by
  go_enter Try.func7, Try.ntmps7
  go_wp2
  go_ret
  exact ⟨rfl, rfl⟩

/-- ZZMisfitStep of the one step. -/
theorem step_any (s : ByteArray) (b m : Nat) (w : World) (c0 : w.cell? ⟨b, 0, none⟩ = some (.string s)) (c1 : w.cell? ⟨b, 1, none⟩ = some (.bool false)) (c2 : w.cell? ⟨b, 2, none⟩ = some (.int .i64 0)) (c3 : w.cell? ⟨b, 3, none⟩ = some (.slice none 0 0)) (m1 : w.cell? ⟨m, 1, none⟩ = some (.slice (some ⟨b, 0, none⟩) 1 1)) :
    Calls Try.prog 17 #[.pointer (some ⟨m, 0, none⟩), .int .i64 0] w fun e w' => e = .returned (.tuple #[.string s, .bool false, .int .i64 0, .slice none 0 0]) ∧ ∃ n, w' = w.drewN n := by
  go_enter Try.func17, Try.ntmps17
  go_wp2
  go_quiet (fail)
  go_wp2
  exact bodyPost_ret (v := .tuple #[.string s, .bool false, .int .i64 0, .slice none 0 0]) (by simp [results, Try.results17, go_sem]) rfl ⟨rfl, _, rfl⟩

/-- zzNamesOnly over such a Misfit. -/
theorem names_any (s : ByteArray) (b m : Nat) (w : World) (hb : w.heap[b]? = some (.cells #[.string s, .bool false, .int .i64 0, .slice none 0 0] 41 (0, 0))) (hm : w.heap[m]? = some (.cells #[.bool false, .slice (some ⟨b, 0, none⟩) 1 1] 44 (0, 0))) :
    Calls Try.prog 8 #[.pointer (some ⟨m, 0, none⟩), .string s] w fun e w' => e = .returned (.bool true) ∧ ∃ n, w' = w.drewN n := by
  have q28 : ∀ (w : World) (a : Option Addr) (n c n' c' : Nat), (binOp .eql 28 (.slice a n c) (.slice none n' c')).run Try.prog w = .ok (.bool a.isNone) w := fun w a n c n' c' => Lib.run_eql_slice_nil w _ _ a n c n' c' Try.underlying28
  have c0 : w.cell? ⟨b, 0, none⟩ = some (.string s) := by simp [World.cell?, hb]
  have c1 : w.cell? ⟨b, 1, none⟩ = some (.bool false) := by simp [World.cell?, hb]
  have c2 : w.cell? ⟨b, 2, none⟩ = some (.int .i64 0) := by simp [World.cell?, hb]
  have c3 : w.cell? ⟨b, 3, none⟩ = some (.slice none 0 0) := by simp [World.cell?, hb]
  have m0 : w.cell? ⟨m, 0, none⟩ = some (.bool false) := by simp [World.cell?, hm]
  have m1 : w.cell? ⟨m, 1, none⟩ = some (.slice (some ⟨b, 0, none⟩) 1 1) := by simp [World.cell?, hm]
  clear hb hm
  go_enter Try.func8, Try.ntmps8
  go_wp2_with (first | (go_at_call 17; refine (step_any s b m _ c0 c1 c2 c3 m1).mono ?_; rintro e w' ⟨rfl, n, rfl⟩) | go_in)
  go_ret
  exact ⟨rfl, n, rfl⟩

theorem stepAt_any (b m : Nat) (w : World) (m1 : w.cell? ⟨m, 1, none⟩ = some (.slice (some ⟨b, 0, none⟩) 1 1)) :
    Calls Try.prog 9 #[.pointer (some ⟨m, 0, none⟩), .int .i64 0] w fun e w' => e = .returned (.pointer (some ⟨b, 0, none⟩)) ∧ w = w' := by
  go_enter Try.func9, Try.ntmps9
  go_wp2
  go_ret
  exact ⟨rfl, rfl⟩

theorem takes_big (s : ByteArray) (w : World) (h : 1048576 < s.size) : Calls Try.prog 3 #[.string s] w fun e w' => e = .returned (.bool true) ∧ Below w.heap.size w w' := by
  go_enter Try.func3, Try.ntmps3
  go_wp2_with fail
  refine (bytes6_no _ _ h).mono ?_
  rintro e w1 ⟨rfl, rfl⟩
  go_wp2
  go_ret
  exact ⟨rfl, Below.refl _ _⟩

theorem draws_below {B : Nat} {a w : World} (h : Below B a w) (n : Nat) : Below B a (w.drewN n) := h.trans ⟨rfl, rfl, rfl, Nat.le_refl _, fun _ _ => rfl⟩

/-- The same, told by facts on the world alone. -/
theorem takesNo_some (s : ByteArray) (w : World) :
    Calls Try.prog 7 #[.string s] w fun e w' => ∃ b m, e = .returned (.pointer (some ⟨m, 0, none⟩)) ∧ w'.heap[b]? = some (.cells #[.string s, .bool false, .int .i64 0, .slice none 0 0] 41 (0, 0)) ∧
      w'.heap[m]? = some (.cells #[.bool false, .slice (some ⟨b, 0, none⟩) 1 1] 44 (0, 0)) ∧ w.heap.size ≤ b ∧ w.heap.size ≤ m ∧ Below w.heap.size w w' := by
  refine (takesNo_any s w).mono ?_
  rintro e w' ⟨rfl, rfl⟩
  refine ⟨w.heap.size, w.heap.size + 1, rfl, ?_, ?_, Nat.le_refl _, Nat.le_succ _, ((Below.refl _ _).alloc (Nat.le_refl _) _).alloc (by simp) _⟩
  · rw [Below.heap_alloc _ _ _ (by simp)]; exact heap_alloc_new w _
  · have := heap_alloc_new (w.alloc (.cells #[.string s, .bool false, .int .i64 0, .slice none 0 0] 41)) (.cells #[.bool false, .slice (some ⟨w.heap.size, 0, none⟩) 1 1] 44)
    simpa using this

theorem run_neq_ptr_other {P : Program} (w : World) {tp te : TypeId} {j : TypeInfo} {a b : Addr} {ca cb : Array Value} {ta tb : TypeId} (hp : P.underlying tp = some (.pointer te)) (hte : P.info? te = some j) (hsz : j.size ≠ 0)
    (hne : a ≠ b) (ha : w.heap[a.block]? = some (.cells ca ta (0, 0))) (hb : w.heap[b.block]? = some (.cells cb tb (0, 0))) :
    (binOp .neq tp (.pointer (some a)) (.pointer (some b))).run P w = .ok (.bool true) w := by
  have h : ∀ d : Nat, (Op.equalIn (d + 1) tp (.pointer (some a)) (.pointer (some b))).run P w = .ok false w := fun d => by
    simp [Op.equalIn, run_underlying hp, sizeOf, typeInfo, hte, hsz, run_sameAddr_other w hne ha hb]
  simp only [binOp]
  simp [Op.equal, Op.maxDepth, h 9999]

theorem Try.info44 : (Try.prog.info? 44).map (fun i => i.size) = some 2 := by kernel_rfl
theorem Try.info41 : (Try.prog.info? 41).map (fun i => i.size) = some 4 := by kernel_rfl

set_option maxHeartbeats 1000000 in
theorem takes_small (s : ByteArray) (w : World) (h : s.size ≤ 1048576) : Calls Try.prog 3 #[.string s] w fun e w' => e = .returned (.bool true) ∧ Below w.heap.size w w' := by
  obtain ⟨i44, hi44, hs44⟩ := Option.map_eq_some_iff.1 Try.info44
  obtain ⟨i41, hi41, hs41⟩ := Option.map_eq_some_iff.1 Try.info41
  go_enter Try.func3, Try.ntmps3
  go_wp2_with fail
  refine (bytes6_yes _ _ h).mono ?_
  rintro e w1 ⟨rfl, rfl⟩
  go_wp2_with fail
  refine (takesNo_some _ _).mono ?_
  rintro e w1 ⟨b1, m1, rfl, hb1, hm1, _, _, B1⟩
  go_wp2_with fail
  refine (takesNo_some _ _).mono ?_
  rintro e w2 ⟨b2, m2, rfl, hb2, hm2, lb2, lm2, B2⟩
  have hb1' := (B2.block b1 (lt_of_block hb1)).trans hb1
  have hm1' := (B2.block m1 (lt_of_block hm1)).trans hm1
  have lb1 := lt_of_block hb1
  have lm1 := lt_of_block hm1
  have hB : Below w.heap.size w w2 := B1.trans (B2.mono B1.size)
  have e23 : ∀ n, (binOp .eql 23 (.pointer (some ⟨m1, 0, none⟩)) (.pointer (some ⟨m2, 0, none⟩))).run Try.prog (w2.drewN n) = .ok (.bool false) (w2.drewN n) := fun n =>
    run_eql_ptr_other (w2.drewN n) Try.underlying23 hi44 (by omega) (by simp <;> omega) hm1' hm2
  have e26 : ∀ n, (binOp .neq 26 (.pointer (some ⟨b1, 0, none⟩)) (.pointer (some ⟨b2, 0, none⟩))).run Try.prog (w2.drewN n) = .ok (.bool true) (w2.drewN n) := fun n =>
    run_neq_ptr_other (w2.drewN n) Try.underlying26 hi41 (by omega) (by simp <;> omega) hb1' hb2
  have e23' := e23 0
  rw [World.drewN_zero] at e23'
  have HB : Hid (Below w.heap.size w w2) := hB
  have H1 : Hid (∀ n, (w2.drewN n).heap[b1]? = some (.cells #[.string s, .bool false, .int .i64 0, .slice none 0 0] 41 (0, 0)) ∧ (w2.drewN n).heap[m1]? = some (.cells #[.bool false, .slice (some ⟨b1, 0, none⟩) 1 1] 44 (0, 0))) := fun n => ⟨hb1', hm1'⟩
  have H2 : Hid (∀ n, (w2.drewN n).heap[b2]? = some (.cells #[.string s, .bool false, .int .i64 0, .slice none 0 0] 41 (0, 0)) ∧ (w2.drewN n).heap[m2]? = some (.cells #[.bool false, .slice (some ⟨b2, 0, none⟩) 1 1] 44 (0, 0))) := fun n => ⟨hb2, hm2⟩
  have n1 : w2.cell? ⟨m1, 1, none⟩ = some (.slice (some ⟨b1, 0, none⟩) 1 1) := by simp [World.cell?, hm1']
  have n2 : w2.cell? ⟨m2, 1, none⟩ = some (.slice (some ⟨b2, 0, none⟩) 1 1) := by simp [World.cell?, hm2]
  clear hb1 hm1 hb2 hm2 hb1' hm1' B1 B2 hB hi44 hi41 hs44 hs41 e23 lb1 lm1 lb2 lm2
  go_wp2_with fail
  rw [← World.drewN_zero (w := w2)]
  refine (names_any s b1 m1 _ (H1.out 0).1 (H1.out 0).2).mono ?_
  rintro e w3 ⟨rfl, k1, rfl⟩
  go_wp2_with fail
  refine (names_any s b2 m2 _ (H2.out k1).1 (H2.out k1).2).mono ?_
  rintro e w3 ⟨rfl, k2, rfl⟩
  go_wp2_with fail
  refine (stepAt_any b1 m1 _ (by exact n1)).mono ?_
  rintro e w3 ⟨rfl, rfl⟩
  go_wp2_with fail
  refine (stepAt_any b2 m2 _ (by exact n2)).mono ?_
  rintro e w3 ⟨rfl, rfl⟩
  go_wp2
  go_ret
  exact ⟨rfl, draws_below HB.out _⟩

theorem takes_walk (s : ByteArray) (w : World) : Calls Try.prog 3 #[.string s] w fun e w' => e = .returned (.bool true) ∧ Below w.heap.size w w' := by
  by_cases h : s.size ≤ 1048576
  · exact takes_small s w h
  · exact takes_big s w (by omega)

#print axioms takes_walk
end Go.Proofs.Qxb6616012a
