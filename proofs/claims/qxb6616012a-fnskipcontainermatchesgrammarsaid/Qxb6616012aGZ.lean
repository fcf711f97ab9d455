/-
  ZZSkipContainer, zzBytes.
-/
import Derived.Test.Qxb6616012aGCont
import Derived.Test.Qxb6616012aGMVal
namespace Go.Proofs.Qxb6616012a.G
open Go.RowKit

theorem bytes10_yes (ao : Option Addr) (len cap : Nat) (x y : Int) (w : World) (h : len ≤ 1048576) : Calls Try.prog 10 #[.slice ao len cap, .int .i64 x, .int .i64 y] w fun e w' => e = .returned (.bool true) ∧ w = w' := by
  go_enter Try.func10, Try.ntmps10
  go_wp2
  go_ret
  exact ⟨rfl, rfl⟩
theorem bytes10_no (ao : Option Addr) (len cap : Nat) (x y : Int) (w : World) (h : 1048576 < len) : Calls Try.prog 10 #[.slice ao len cap, .int .i64 x, .int .i64 y] w fun e w' => e = .returned (.bool false) ∧ w = w' := by
  go_enter Try.func10, Try.ntmps10
  go_wp2
  go_ret
  exact ⟨rfl, rfl⟩

set_option maxHeartbeats 1000000 in
set_option maxRecDepth 100000 in
theorem zzSkip_any (g n cap : Nat) (D : Nat → Int) (hby : ∀ i, 0 ≤ D i ∧ D i < 256) (dep p : Nat) (w : World) (h : Dat w g n D) (hle : n ≤ cap) (hp : p < n) (hn : n ≤ 1048576) (hd : dep ≤ 10000) (ho : D p = 123 ∨ D p = 91) (hg : g < w.heap.size) :
    Calls Try.prog 11 #[.slice (some ⟨g, 0, none⟩) n cap, .int .i64 p, .int .i64 dep] w fun e w' => Below w.heap.size w w' ∧ ∃ b q f, e = .returned (.tuple #[.bool b, .int .i64 (q : Nat), .int .i64 dep, .bool f]) ∧ ((b = true ∧ f = false ∧ val D n p dep = .ok q) ∨ (b = false ∧ val D n p dep = .error f ∧ p ≤ q ∧ q ≤ n)) := by
  have HD : Hid (Dat w g n D) := h
  clear h
  go_enter Try.func11, Try.ntmps11
  go_wp2_with fail
  refine (skipContainer_any w.heap.size g n cap D hby dep p _ ⟨heap_alloc_new w _, fun i hi => (World.cell?_of_block (w := w) (Below.heap_alloc w _ _ hg)).trans (HD.out i hi), by omega, hle⟩ hp hn hd ho (by simp; omega)).mono ?_
  rintro e w1 ⟨hB, b, q, f, rfl, hS, hR⟩
  obtain ⟨c0, c1, c2, c3, f1, f3⟩ := hS.cells
  have HR : Hid _ := hR
  have HB : Hid (Below w.heap.size w w1) := ((Below.refl _ _).alloc (Nat.le_refl _) _).trans hB
  clear hR hS hB
  go_wp2
  go_quiet (fail)
  go_wp2
  refine bodyPost_ret (v := .tuple #[.bool b, .int .i64 (q : Nat), .int .i64 dep, .bool f]) (by simp [results, Try.results11, go_sem]) rfl ⟨?_, b, q, f, rfl, HR.out⟩
  exact HB.out.trans ⟨rfl, rfl, rfl, Nat.le_refl _, fun _ _ => rfl⟩
end Go.Proofs.Qxb6616012a.G
