/-
  THE WALK OF FnDecoderFailIdempotentEmpties (3).
-/
import Derived.Test.Qxb6614839aClone
import Derived.Lib.SliceRun
import Derived.Outline
namespace Go.Proofs.Qxb6614839a
open Go.RowKit

theorem bytes6_yes (ao : Option Addr) (len cap : Nat) (w : World) (h : len ≤ 1048576) : Calls Try.prog 6 #[.slice ao len cap] w fun e w' => e = .returned (.bool true) ∧ w = w' := by
  go_enter Try.func6, Try.ntmps6
  go_wp2
  go_ret
  exact ⟨rfl, rfl⟩
theorem bytes6_no (ao : Option Addr) (len cap : Nat) (w : World) (h : 1048576 < len) : Calls Try.prog 6 #[.slice ao len cap] w fun e w' => e = .returned (.bool false) ∧ w = w' := by
  go_enter Try.func6, Try.ntmps6
  go_wp2
  go_ret
  exact ⟨rfl, rfl⟩

/-- Behind the clone: whatever slice it is. -/
theorem fail_big (ao : Option Addr) (len cap : Nat) (w : World) (h : 1048576 < len) : Calls Try.prog 3 #[.slice ao len cap] w fun e w' => e = .returned (.bool true) ∧ Below w.heap.size w w' := by
  go_enter Try.func3, Try.ntmps3
  go_wp2_with fail
  refine (bytes6_no _ _ _ _ h).mono ?_
  rintro e w1 ⟨rfl, rfl⟩
  go_wp2
  go_ret
  exact ⟨rfl, Below.refl _ _⟩

set_option maxHeartbeats 1000000 in
theorem fail_small (ao : Option Addr) (len cap : Nat) (w : World) (h : len ≤ 1048576) (ao' : Option Addr) (len' cap' : Nat)
    (hcl : Calls Try.prog 7 #[.slice ao len cap] w fun e w' => e = .returned (.slice ao' len' cap') ∧ Below w.heap.size w w') :
    Calls Try.prog 3 #[.slice ao len cap] w fun e w' => e = .returned (.bool true) ∧ Below w.heap.size w w' := by
  have q22 : ∀ (w : World) (a : Option Addr) (n c n' c' : Nat), (binOp .eql 22 (.slice a n c) (.slice none n' c')).run Try.prog w = .ok (.bool a.isNone) w := fun w a n c n' c' => Lib.run_eql_slice_nil w _ _ a n c n' c' Try.underlying22
  have HC : Hid (Calls Try.prog 7 #[.slice ao len cap] w fun e w' => e = .returned (.slice ao' len' cap') ∧ Below w.heap.size w w') := hcl
  clear hcl
  go_enter Try.func3, Try.ntmps3
  go_wp2_with fail
  refine (bytes6_yes _ _ _ _ h).mono ?_
  rintro e w1 ⟨rfl, rfl⟩
  go_wp2_with fail
  refine HC.out.mono ?_
  rintro e w1 ⟨rfl, hb⟩
  have hz := hb.size
  go_wp2
  go_end0
  go_wp2
  go_end0
  go_wp2
  go_end0
  go_wp2
  go_end0
  go_wp2
  go_ret
  exact ⟨rfl, ((hb.alloc hz _).alloc (by simp; omega) _).alloc (by simp; omega) _⟩
end Go.Proofs.Qxb6614839a
