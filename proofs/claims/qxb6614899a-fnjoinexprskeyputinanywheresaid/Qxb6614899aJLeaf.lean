/-
  THE LEAVES OF THE JOIN LAWS BY THEIR CONTRACTS: zzAdd (15), zzKeyBytes (16), ZZColumnKey (18), ZZColumnExpr (19), ZZColumnOf (10).
-/
import Derived.Test.Qxb6614899aProg
import Derived.WalkKit
import Derived.WalkLawsBesides
import Derived.WalkSpells
import Derived.OwnWalk
import Derived.Deep.QuietTactic
import Derived.BigQuiet
import Derived.Outline
namespace Go.Proofs.Qxb6614899a
open Go.RowKit

/-- zzAdd: whatever comes in within its limits stays within them. -/
theorem add_some (t n : Int) (w : World) (h0 : 0 ≤ t) (h1 : t ≤ 2097152) (h2 : 0 ≤ n) : Calls Try.prog 15 #[.int .i64 t, .int .i64 n] w fun e w' => ∃ r, e = .returned (.int .i64 r) ∧ 0 ≤ r ∧ r ≤ 2097152 ∧ w = w' := by
  by_cases a1 : 1048576 < n
  · go_enter Try.func15, Try.ntmps15
    go_wp2
    go_ret
    exact ⟨_, rfl, by omega, by omega, rfl⟩
  · by_cases a2 : 1048576 < t
    · go_enter Try.func15, Try.ntmps15
      go_wp2
      go_ret
      exact ⟨_, rfl, by omega, by omega, rfl⟩
    · go_enter Try.func15, Try.ntmps15
      go_wp2
      go_ret
      exact ⟨_, rfl, by omega, by omega, rfl⟩

set_option maxHeartbeats 400000 in
theorem keyBytes_some (t : Int) (a b c d : ByteArray) (ns : Bool) (w : World) (h0 : 0 ≤ t) (h1 : t ≤ 2097152) :
    Calls Try.prog 16 #[.int .i64 t, .agg #[.string a, .string b, .string c, .string d, .bool ns]] w fun e w' => ∃ r, e = .returned (.int .i64 r) ∧ 0 ≤ r ∧ r ≤ 2097152 ∧ w' = w.alloc (.cells #[.string a, .string b, .string c, .string d, .bool ns] 25) := by
  go_enter Try.func16, Try.ntmps16
  go_wp2_with fail
  refine (add_some _ _ _ h0 h1 (by omega)).mono ?_
  rintro e w1 ⟨r1, rfl, g1, k1, rfl⟩
  go_wp2_with fail
  refine (add_some _ _ _ g1 k1 (by omega)).mono ?_
  rintro e w1 ⟨r2, rfl, g2, k2, rfl⟩
  go_wp2_with fail
  refine (add_some _ _ _ g2 k2 (by omega)).mono ?_
  rintro e w1 ⟨r3, rfl, g3, k3, rfl⟩
  go_wp2_with fail
  refine (add_some _ _ _ g3 k3 (by omega)).mono ?_
  rintro e w1 ⟨r4, rfl, g4, k4, rfl⟩
  go_wp2_with fail
  refine (add_some _ _ _ g4 k4 (by omega)).mono ?_
  rintro e w1 ⟨r5, rfl, g5, k5, rfl⟩
  go_wp2
  go_ret
  exact ⟨r5, rfl, g5, k5, rfl⟩

theorem columnExpr_any (t c : ByteArray) (w : World) :
    Calls Try.prog 19 #[.string t, .string c] w fun e w' => e = .returned (.iface 65 (.pointer (some ⟨w.heap.size, 0, none⟩))) ∧ w' = w.alloc (.cells #[.string t, .string c] 67) := by
  go_enter Try.func19, Try.ntmps19
  go_wp2
  go_ret
  exact ⟨rfl, rfl⟩

theorem columnKey_any (a b c d : ByteArray) (ns : Bool) (w : World) :
    Calls Try.prog 18 #[.string a, .string b, .string c, .string d, .bool ns] w fun e w' => e = .returned (.agg #[.iface 65 (.pointer (some ⟨w.heap.size + 1, 0, none⟩)), .iface 65 (.pointer (some ⟨w.heap.size + 1 + 1, 0, none⟩)), .bool ns]) ∧
      w' = ((w.alloc (.cells #[.iface 65 (.pointer (some ⟨w.heap.size + 1, 0, none⟩)), .iface 65 (.pointer (some ⟨w.heap.size + 1 + 1, 0, none⟩)), .bool ns] 62)).alloc (.cells #[.string a, .string b] 67)).alloc (.cells #[.string c, .string d] 67) := by
  go_enter Try.func18, Try.ntmps18
  go_wp2
  exact bodyPost_ret (v := .agg #[.iface 65 (.pointer (some ⟨w.heap.size + 1, 0, none⟩)), .iface 65 (.pointer (some ⟨w.heap.size + 1 + 1, 0, none⟩)), .bool ns]) (by simp [results, Try.results18, go_sem]) rfl ⟨rfl, rfl⟩

theorem assert65 (a : Addr) (w : World) : (Instr.typeAssert (.iface 65 (.pointer (some a))) 35 65 true).run Try.prog w = .ok (.tuple #[.pointer (some a), .bool true]) w := by kernel_rfl

set_option maxHeartbeats 400000 in
theorem columnOf_any (b : Nat) (t c : ByteArray) (w : World) (h : w.heap[b]? = some (.cells #[.string t, .string c] 67 (0, 0))) :
    Calls Try.prog 10 #[.iface 65 (.pointer (some ⟨b, 0, none⟩))] w fun e w' => e = .returned (.tuple #[.string t, .string c, .bool true]) ∧ ∃ n, w' = w.drewN n := by
  have c0 : w.cell? ⟨b, 0, none⟩ = some (.string t) := by simp [World.cell?, h]
  have c1 : w.cell? ⟨b, 1, none⟩ = some (.string c) := by simp [World.cell?, h]
  clear h
  have ha := assert65
  go_enter Try.func10, Try.ntmps10
  go_wp2
  go_quiet (fail)
  go_wp2
  go_ret3
  exact ⟨rfl, _, rfl⟩

end Go.Proofs.Qxb6614899a
