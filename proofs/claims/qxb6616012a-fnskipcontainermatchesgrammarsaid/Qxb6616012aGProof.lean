/-
  'Rows.FnSkipContainerMatchesGrammarSaid' PROVED: the given shell (proof-skeleton.mjs), its hole filled by Qxb6616012aGMain's walk.
-/
import Derived.Test.Qxb6616012aRows
import Derived.Test.Qxb6616012aGMain
import Derived.WalkKit
import Derived.ProofKit
import Derived.OpenShut
import Derived.ShutString
import Derived.ChangeOld
import Derived.Below
namespace Go.Proofs.Qxb6616012a.fnSkipContainerMatchesGrammar
open Go.ChangeShapes Go.WideShapes Go.ChangeAt Go.RowKit
open Go.ChangeMaps (open_string shut_string)
set_option linter.unusedVariables false

theorem own : ownKnob Try.prog.godebug = none := by kernel_rfl
theorem laidOut : laidOutB Try.prog = true := by kernel_rfl

/-- WHAT THE WALK IS TOLD OF A SLICE OF INTEGERS THAT CAME IN: it is nil; or it leads to a row of 'cap' cells, the numbers 'zs' (the first 'len' are its elements, the rest its spare room), each fitting its kind. -/
def IsRow (k : IntKind) (w : World) (a : Option Addr) (len cap : Nat) (zs : List Int) : Prop :=
  (a = none ∧ len = 0 ∧ cap = 0 ∧ zs = []) ∨
  ∃ x, a = some x ∧ len ≤ cap ∧ cap ≤ maxLen ∧ zs.length = cap ∧ (∀ i, i < zs.length → w.cell? (x.add i) = some (.int k (zs.getD i 0))) ∧ ∀ n ∈ zs, (Lit.int k n).wf = true

/-- The bytes, as a function. -/
def bytesD (len : Nat) (zs : List Int) (i : Nat) : Int := if i < len then zs.getD i 0 else 0

/-- The walk -/
theorem walk (a0 : Option Addr) (len0 cap0 : Nat) (z0 : List Int) (a1 : Int) (a2 : Int) (w : World) (w0 : IsRow .u8 w a0 len0 cap0 z0) (w1 : (Lit.int .i64 a1).wf = true) (w2 : (Lit.int .i64 a2).wf = true) :
    Calls Try.prog 4 #[.slice a0 len0 cap0, .int .i64 a1, .int .i64 a2] w fun e w' => e = .returned (.bool true) ∧ Below w.heap.size w w' := by
  by_cases hbig : 1048576 < len0
  · clear w0
    go_enter Try.func4, Try.ntmps4
    go_wp2_with fail
    refine (G.bytes10_no _ _ _ _ _ _ hbig).mono ?_
    rintro e w1 ⟨rfl, rfl⟩
    go_wp2
    go_ret
    exact ⟨rfl, Below.refl _ _⟩
  by_cases hlo : a1 < 0
  · clear w0
    go_enter Try.func4, Try.ntmps4
    go_wp2_with fail
    refine (G.bytes10_yes _ _ _ _ _ _ (by omega)).mono ?_
    rintro e w1 ⟨rfl, rfl⟩
    go_wp2
    go_ret
    exact ⟨rfl, Below.refl _ _⟩
  obtain ⟨p, rfl⟩ := Int.eq_ofNat_of_zero_le (show 0 ≤ a1 by omega)
  by_cases hhi : (len0 : Int) ≤ (p : Int)
  · clear w0
    go_enter Try.func4, Try.ntmps4
    go_wp2_with fail
    refine (G.bytes10_yes _ _ _ _ _ _ (by omega)).mono ?_
    rintro e w1 ⟨rfl, rfl⟩
    go_wp2
    go_ret
    exact ⟨rfl, Below.refl _ _⟩
  rcases w0 with ⟨_, h0, _⟩ | ⟨x, rfl, hl, hm, hz, hcell, hwz⟩
  · omega
  have hp : p < len0 := by omega
  obtain ⟨b, off, spot⟩ := x
  have hspot : spot = none := by simpa [Addr.add] using World.cell?_spot (hcell 0 (by omega))
  subst hspot
  have hsrc : ∀ i, i < len0 → w.cell? ⟨b, off + i, none⟩ = some (.int .u8 (bytesD len0 z0 i)) := fun i hi => by
    have := hcell i (by omega)
    rw [WideShapes.add_plain] at this
    rw [this]
    simp [bytesD, hi]
  have hby : ∀ i, 0 ≤ bytesD len0 z0 i ∧ bytesD len0 z0 i < 256 := fun i => by
    unfold bytesD
    split
    · rename_i hi
      have hget : z0.getD i 0 = z0[i]'(by omega) := by simp [List.getD, List.getElem?_eq_getElem (show i < z0.length by omega)]
      have hw := hwz _ (List.getElem_mem (show i < z0.length by omega))
      rw [hget]
      simp [Lit.wf] at hw
      have e1 : IntKind.u8.min = 0 := by decide
      have e2 : IntKind.u8.max = 255 := by decide
      rw [e1, e2] at hw
      omega
    · omega
  by_cases hop : bytesD len0 z0 p = 123 ∨ bytesD len0 z0 p = 91
  rotate_left
  · have d0 := hsrc p hp
    have t1 : (bytesD len0 z0 p != 123) = true := by rw [bne_iff_ne]; exact fun h => hop (Or.inl h)
    have t2 : (bytesD len0 z0 p != 91) = true := by rw [bne_iff_ne]; exact fun h => hop (Or.inr h)
    have b3 : decide ((len0 : Int) ≤ (p : Int)) = false := by simp; omega
    have b4 : (p : Int) < (len0 : Int) := by omega
    clear hsrc hby hcell hop hwz
    go_enter Try.func4, Try.ntmps4
    go_wp2_with fail
    refine (G.bytes10_yes _ _ _ _ _ _ (by omega)).mono ?_
    rintro e w1 ⟨rfl, rfl⟩
    go_wp2
    go_ret
    exact ⟨rfl, Below.refl _ _⟩
  by_cases hd : 0 ≤ a2 ∧ a2 ≤ 10000
  · obtain ⟨dep, rfl⟩ := Int.eq_ofNat_of_zero_le hd.1
    exact G.main_walk b off len0 cap0 (bytesD len0 z0) hby w hsrc (by omega) p hp hop dep (by omega)
  have b3 : decide ((len0 : Int) ≤ (p : Int)) = false := by simp; omega
  have b4 : (p : Int) < (len0 : Int) := by omega
  have d0 := hsrc p hp
  rcases hop with hop | hop <;> rw [hop] at d0 <;> clear hop hsrc hby hcell hwz
  all_goals
    by_cases hd0 : a2 < 0
    · go_enter Try.func4, Try.ntmps4
      go_wp2_with fail
      refine (G.bytes10_yes _ _ _ _ _ _ (by omega)).mono ?_
      rintro e w1 ⟨rfl, rfl⟩
      go_wp2
      go_ret
      exact ⟨rfl, Below.refl _ _⟩
    · have hd1 : 10000 < a2 := by omega
      clear hd
      go_enter Try.func4, Try.ntmps4
      go_wp2_with fail
      refine (G.bytes10_yes _ _ _ _ _ _ (by omega)).mono ?_
      rintro e w1 ⟨rfl, rfl⟩
      go_wp2
      go_ret
      exact ⟨rfl, Below.refl _ _⟩

/-! ### THE ROW's STEP: WRITTEN OUT: LEAVE IT -/
set_option maxRecDepth 100000 in
theorem lifted (os : Os) (started : os.Started) (H : Type) (enc : TypeId × Value → H) :
    ReturnsInHanded {} Try.checked os 4 .any (Rows.fnSkipContainerMatchesGrammarSpec.pre6 enc Try.prog Try.f4 Rows.fnSkipContainerMatchesGrammarRow.domain false) (Rows.fnSkipContainerMatchesGrammarSpec.post enc Try.prog Try.f4 false true false false) := by
  refine returnsInHanded_of_change (C := Try.checked) own started (by kernel_rfl) Try.func4
    (ChangeSpec.witness6 (enc := enc) (C := Try.checked) false ⟨#[], #[.slice none 0 0, .int .i64 0, .int .i64 0], []⟩ 8 (by kernel_rfl) (by kernel_rfl) (by kernel_rfl) (by kernel_rfl)) ?_
  intro W base args ds gs before hval0 hW hcnd _
  have hval : ∀ (j : Nat) t v, Try.f4.params[j]? = some t → args[j]? = some v → Value.okWide Try.prog W .any base t v := hval0
  have hW' := hW
  obtain ⟨p, q, hA0, hV, rfl, hfz, hnd⟩ := hW
  have hA : DataW.TrodAll enc Try.prog W 0 (fun _ => true) true Try.f4.params.toList args.toList ds p := hA0
  rw [Try.params4] at hA hval
  obtain ⟨v0, vs0, d0, ds0, p0, q0, hargs, rfl, rfl, h0, r0⟩ := trodAll_cons hA
  obtain ⟨v1, vs1, d1, ds1, p1, q1, rfl, rfl, rfl, h1, r1⟩ := trodAll_cons r0
  obtain ⟨v2, vs2, d2, ds2, p2, q2, rfl, rfl, rfl, h2, r2⟩ := trodAll_cons r1
  obtain ⟨rfl, rfl, rfl⟩ := trodAll_nil r2
  obtain rfl : args = #[v0, v1, v2] := by cases args; simp_all
  obtain ⟨rfl, rfl⟩ := trodVars_none hV
  obtain ⟨a0, len0, cap0, rfl⟩ := okWide_slice Try.underlying28 (hval 0 28 v0 rfl rfl)
  have k0 := h0
  have lt0 : ∀ x ∈ p0, x.block < W.heap.size := by obtain ⟨m, hm⟩ := k0; exact DataW.trod_lt m _ _ _ hm
  obtain ⟨z0, w0⟩ : ∃ zs, IsRow .u8 W a0 len0 cap0 zs := by
    obtain ⟨fuel, hf⟩ := h0
    rcases open_ints Try.underlying28 Try.underlying5 (by kernel_rfl) hf with ⟨hcs, _⟩ | ⟨x, l, c, zs, hcs, _, hl, hm, hz, _, hcell, hwz⟩
    · simp [Value.cells] at hcs
      obtain ⟨rfl, rfl, rfl⟩ := hcs
      exact ⟨[], .inl ⟨rfl, rfl, rfl, rfl⟩⟩
    · simp [Value.cells] at hcs
      obtain ⟨rfl, rfl, rfl⟩ := hcs
      exact ⟨zs, .inr ⟨_, rfl, hl, hm, by simpa using hz, hcell, hwz⟩⟩
  obtain ⟨a1, rfl, rfl, rfl, w1⟩ := open_int Try.underlying3 (hval 1 3 v1 rfl rfl) h1
  obtain ⟨a2, rfl, rfl, rfl, w2⟩ := open_int Try.underlying3 (hval 2 3 v2 rfl rfl) h2
  clear hA0 hval0
  refine (walk a0 len0 cap0 z0 a1 a2 W w0 w1 w2).mono fun e W' ⟨he, bel⟩ => ?_
  subst he
  exact ⟨_, rfl, _, _, _, [], _, [], hW', trodAll_mk1 (shut_bool Try.underlying4 _), (trodAll_cons_mk (Below.trod laidOut (by kernel_rfl) (of_decide_eq_true (by kernel_rfl)) k0 bel lt0) (trodAll_cons_mk (shut_int Try.underlying3 w1) (trodAll_cons_mk (shut_int Try.underlying3 w2) trodAll_mk0))), rfl, bel.frame _, fun h => by cases h⟩

theorem over : Rows.fnSkipContainerMatchesGrammarRow.holds Try.pinned (OpenSpec.ofChange Rows.fnSkipContainerMatchesGrammarSpec) :=
  OpenClaim.holds_of_wide 4 Try.f4 rfl rfl rfl rfl rfl rfl rfl ⟨rfl, rfl, rfl, rfl, rfl⟩ rfl rfl rfl rfl rfl (by kernel_rfl) Try.func4 (by kernel_rfl)
    (of_decide_eq_true (by kernel_rfl)) (by unfold Func.isWrapper; first | (rw [if_pos (by decide +kernel)]; kernel_rfl) | (rw [if_neg (by decide +kernel)]; exact ⟨rfl, rfl⟩))
    (fun os started H enc _ => lifted os started H enc)

/-- ████ THE STATEMENT ████ -/
theorem proved : Rows.FnSkipContainerMatchesGrammarSaid := over
#print axioms proved
end Go.Proofs.Qxb6616012a.fnSkipContainerMatchesGrammar
