/-
  'Rows.FnJoinExprsKeyPutInAnywhereSaid' PROVED: the walk (Qxb6614899aPutWalk) under the guide's frame, typed for these five parameters after proof-skeleton.mjs's text for a law over slices.
-/
import Derived.Test.Qxb6614899aRows
import Derived.Test.Qxb6614899aPutWalk
import Derived.Test.Qxb6614899aJOpen
import Derived.WalkKit
import Derived.ProofKit
import Derived.OpenShut
import Derived.ShutString
import Derived.ChangeOld
import Derived.Below
namespace Go.Proofs.Qxb6614899a.fnJoinExprsKeyPutInAnywhere
open Go.ChangeShapes Go.WideShapes Go.ChangeAt Go.RowKit
open Go.ChangeMaps (open_string shut_string)
set_option linter.unusedVariables false

theorem own : ownKnob Try.prog.godebug = none := by kernel_rfl
theorem laidOut : laidOutB Try.prog = true := by kernel_rfl

set_option maxRecDepth 100000 in
theorem lifted (os : Os) (started : os.Started) (H : Type) (enc : TypeId × Value → H) :
    ReturnsInHanded {} Try.checked os 3 .any (Rows.fnJoinExprsKeyPutInAnywhereSpec.pre6 enc Try.prog Try.f3 Rows.fnJoinExprsKeyPutInAnywhereRow.domain false) (Rows.fnJoinExprsKeyPutInAnywhereSpec.post enc Try.prog Try.f3 false true false false) := by
  refine returnsInHanded_of_change (C := Try.checked) own started (by kernel_rfl) Try.func3
    (ChangeSpec.witness6 (enc := enc) (C := Try.checked) false ⟨#[], #[.string ByteArray.empty, .slice none 0 0, .slice none 0 0, .int .i64 0, .agg #[.string ByteArray.empty, .string ByteArray.empty, .string ByteArray.empty, .string ByteArray.empty, .bool false]], []⟩ 16 (by kernel_rfl) (by kernel_rfl) (by kernel_rfl) (by kernel_rfl)) ?_
  intro W base args ds gs before hval0 hW hcnd _
  have hval : ∀ (j : Nat) t v, Try.f3.params[j]? = some t → args[j]? = some v → Value.okWide Try.prog W .any base t v := hval0
  have hW' := hW
  obtain ⟨p, q, hA0, hV, rfl, hfz, hnd⟩ := hW
  have hA : DataW.TrodAll enc Try.prog W 0 (fun _ => true) true Try.f3.params.toList args.toList ds p := hA0
  rw [Try.params3] at hA hval
  obtain ⟨v0, vs0, d0, ds0, p0, q0, hargs, rfl, rfl, h0, r0⟩ := trodAll_cons hA
  obtain ⟨v1, vs1, d1, ds1, p1, q1, rfl, rfl, rfl, h1, r1⟩ := trodAll_cons r0
  obtain ⟨v2, vs2, d2, ds2, p2, q2, rfl, rfl, rfl, h2, r2⟩ := trodAll_cons r1
  obtain ⟨v3, vs3, d3, ds3, p3, q3, rfl, rfl, rfl, h3, r3⟩ := trodAll_cons r2
  obtain ⟨v4, vs4, d4, ds4, p4, q4, rfl, rfl, rfl, h4, r4⟩ := trodAll_cons r3
  obtain ⟨rfl, rfl, rfl⟩ := trodAll_nil r4
  obtain rfl : args = #[v0, v1, v2, v3, v4] := by cases args; simp_all
  obtain ⟨rfl, rfl⟩ := trodVars_none hV
  obtain ⟨a0, rfl, rfl, rfl, w0⟩ := open_string Try.underlying9 (hval 0 9 v0 rfl rfl) h0
  obtain ⟨a1, len1, cap1, rfl⟩ := okWide_slice Try.underlying22 (hval 1 22 v1 rfl rfl)
  obtain ⟨a2, len2, cap2, rfl⟩ := okWide_slice Try.underlying23 (hval 2 23 v2 rfl rfl)
  have hn1 : a1 = none → cap1 = 0 := by
    intro e
    subst e
    obtain ⟨fuel, hf⟩ := h1
    rcases Go.Deep.open_slice Try.underlying22 (by simpa [Value.cells] using hf) with ⟨hcs, _⟩ | ⟨a, len', cap', m, n, D, Pl, hcs, _⟩
    · simp at hcs
      exact hcs.2
    · simp at hcs
  have k1 := h1
  have k2 := h2
  have k4 := h4
  have lt4 : ∀ x ∈ p4, x.block < W.heap.size := by obtain ⟨m, hm⟩ := k4; exact DataW.trod_lt m _ _ _ hm
  have lt1 : ∀ x ∈ p1, x.block < W.heap.size := by obtain ⟨m, hm⟩ := k1; exact DataW.trod_lt m _ _ _ hm
  have lt2 : ∀ x ∈ p2, x.block < W.heap.size := by obtain ⟨m, hm⟩ := k2; exact DataW.trod_lt m _ _ _ hm
  obtain ⟨ks, rfl, hcap, rK⟩ : ∃ ks : List KeyC, ks.length = len1 ∧ len1 ≤ cap1 ∧ RowOf W a1 (keysCells ks) := by
    obtain ⟨fuel, hf⟩ := h1
    exact open_rows ⟨ByteArray.empty, ByteArray.empty, ByteArray.empty, ByteArray.empty, false⟩ KeyC.cells 5 (by omega) (fun _ => rfl) Try.underlying22 Try.cells25 elem25 (by simpa [Value.cells] using hf)
  obtain ⟨cond, rfl, _, rC⟩ : ∃ cond : List (ByteArray × ByteArray), cond.length = len2 ∧ len2 ≤ cap2 ∧ RowOf W a2 (condCells cond) := by
    obtain ⟨fuel, hf⟩ := h2
    exact open_rows (ByteArray.empty, ByteArray.empty) colCells 2 (by omega) (fun _ => rfl) Try.underlying23 Try.cells37 elem37 (by simpa [Value.cells] using hf)
  obtain ⟨a3, rfl, rfl, rfl, w3⟩ := open_int Try.underlying3 (hval 3 3 v3 rfl rfl) h3
  obtain ⟨cs4, rfl, _⟩ := okWide_struct Try.underlying25 (hval 4 25 v4 rfl rfl)
  obtain ⟨key, hkey⟩ : ∃ key : KeyC, cs4.toList = key.cells := by
    obtain ⟨fuel, hf⟩ := h4
    exact elem25 _ _ _ (by simpa [Value.cells] using hf)
  obtain rfl : cs4 = #[.string key.lt, .string key.lc, .string key.rt, .string key.rc, .bool key.ns] := by cases cs4; simp_all [KeyC.cells]
  clear hA0 hval0 hkey
  refine (put_walk a0 ks cond a1 a2 cap1 cap2 a3 key W hcap hn1 rK rC).mono fun e W' ⟨he, bel⟩ => ?_
  subst he
  exact ⟨_, rfl, _, _, _, [], _, [], hW', trodAll_mk1 (shut_bool Try.underlying4 _), (trodAll_cons_mk (shut_string Try.underlying9 w0) (trodAll_cons_mk (Below.trod laidOut (by kernel_rfl) (of_decide_eq_true (by kernel_rfl)) k1 bel lt1) (trodAll_cons_mk (Below.trod laidOut (by kernel_rfl) (of_decide_eq_true (by kernel_rfl)) k2 bel lt2) (trodAll_cons_mk (shut_int Try.underlying3 w3) (trodAll_cons_mk (Below.trod laidOut (by kernel_rfl) (of_decide_eq_true (by kernel_rfl)) k4 bel lt4) trodAll_mk0))))), rfl, bel.frame _, fun h => by cases h⟩

theorem over : Rows.fnJoinExprsKeyPutInAnywhereRow.holds Try.pinned (OpenSpec.ofChange Rows.fnJoinExprsKeyPutInAnywhereSpec) :=
  OpenClaim.holds_of_wide 3 Try.f3 rfl rfl rfl rfl rfl rfl rfl ⟨rfl, rfl, rfl, rfl, rfl⟩ rfl rfl rfl rfl rfl (by kernel_rfl) Try.func3 (by kernel_rfl)
    (of_decide_eq_true (by kernel_rfl)) (by unfold Func.isWrapper; first | (rw [if_pos (by decide +kernel)]; kernel_rfl) | (rw [if_neg (by decide +kernel)]; exact ⟨rfl, rfl⟩))
    (fun os started H enc _ => lifted os started H enc)

/-- THE STATEMENT -/
theorem proved : Rows.FnJoinExprsKeyPutInAnywhereSaid := over
#print axioms proved
end Go.Proofs.Qxb6614899a.fnJoinExprsKeyPutInAnywhere
