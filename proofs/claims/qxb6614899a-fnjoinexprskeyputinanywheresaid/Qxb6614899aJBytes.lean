/-
  zzBytes_FnJoinExprsSplitAtAnyKey (11) BY ITS CONTRACT: whatever it answers, where it says yes the slices are short.
-/
import Derived.Test.Qxb6614899aJExprs
namespace Go.Proofs.Qxb6614899a
open Go.RowKit

/-- WHAT THE LENGTHS' TEST LEAVES. -/
def BytesLeft (ks : List KeyC) (cond : List (ByteArray × ByteArray)) (w : World) (e : Ending) (w' : World) : Prop :=
  ∃ b : Bool, e = .returned (.bool b) ∧ Below w.heap.size w w' ∧ (b = true → ks.length ≤ 1048576 ∧ cond.length ≤ 1048576)
theorem BytesLeft.no {ks : List KeyC} {cond : List (ByteArray × ByteArray)} {w w' : World} (h : Below w.heap.size w w') : BytesLeft ks cond w (.returned (.bool false)) w' := ⟨false, rfl, h, by simp⟩
theorem BytesLeft.yes {ks : List KeyC} {cond : List (ByteArray × ByteArray)} {w w' : World} (h : Below w.heap.size w w') (h1 : ks.length ≤ 1048576) (h2 : cond.length ≤ 1048576) : BytesLeft ks cond w (.returned (.bool true)) w' := ⟨true, rfl, h, fun _ => ⟨h1, h2⟩⟩

set_option maxHeartbeats 3200000 in
set_option maxRecDepth 100000 in
theorem bytes11_any (kind : ByteArray) (ks : List KeyC) (cond : List (ByteArray × ByteArray)) (aK aC : Option Addr) (cK cC : Nat) (m : Int) (w : World) (rK : RowOf w aK (keysCells ks)) (rC : RowOf w aC (condCells cond)) :
    Calls Try.prog 11 #[.string kind, .slice aK ks.length cK, .slice aC cond.length cC, .int .i64 m] w fun e w' => BytesLeft ks cond w e w' := by
  have RK : Hid (RowOf w aK (keysCells ks)) := rK
  have RC : Hid (RowOf w aC (condCells cond)) := rC
  clear rK rC
  by_cases h1 : 1048576 < kind.size
  · go_enter Try.func11, Try.ntmps11
    go_wp2
    go_ret
    exact BytesLeft.no (Below.refl _ _)
  by_cases h2 : 1048576 < ks.length
  · go_enter Try.func11, Try.ntmps11
    go_wp2
    go_ret
    exact BytesLeft.no (Below.refl _ _)
  by_cases h3 : 1048576 < kind.size + ks.length
  · go_enter Try.func11, Try.ntmps11
    go_wp2
    go_ret
    exact BytesLeft.no (Below.refl _ _)
  go_enter Try.func11, Try.ntmps11
  go_wp2
  go_loop [9, 10] (fun z i => ∃ (q : Int) (k : Nat), 0 ≤ q ∧ q ≤ 1048576 ∧ z = .int .i64 q ∧ k ≤ ks.length ∧ i = .int .i64 k) (fun _ i => ks.length - (intOf i).toNat)
  case atStart => exact ⟨_, 0, by omega, by omega, rfl, by omega, rfl⟩
  case round =>
    obtain ⟨q, k, hq0, hq1, rfl, hkl, rfl⟩ := hrel
    by_cases hlt : k < ks.length
    · obtain ⟨key, hkey⟩ : ∃ key, ks[k]? = some key := ⟨_, List.getElem?_eq_getElem hlt⟩
      obtain ⟨b, off, hao, hcell⟩ := RK.out
      have hne : keysCells ks ≠ [] := fun e => by have := flat_len KeyC.cells 5 (fun _ => rfl) ks; rw [show ks.flatMap KeyC.cells = [] from e] at this; simp at this; omega
      have hao' := hao hne
      subst hao'
      have q0 : w.cell? ⟨b, off + k * 5, none⟩ = some (.string key.lt) := key_cell hcell hkey 0 _ (by omega) rfl
      have q1 : w.cell? ⟨b, off + k * 5 + 1, none⟩ = some (.string key.lc) := key_cell hcell hkey 1 _ (by omega) rfl
      have q2 : w.cell? ⟨b, off + k * 5 + 2, none⟩ = some (.string key.rt) := key_cell hcell hkey 2 _ (by omega) rfl
      have q3 : w.cell? ⟨b, off + k * 5 + 3, none⟩ = some (.string key.rc) := key_cell hcell hkey 3 _ (by omega) rfl
      have b1 : (k : Int) < (ks.length : Int) := by omega
      clear hkey hao hcell hne RK RC
      obtain ⟨x0, x1, x2, x3, x4⟩ := key
      simp only at q0 q1 q2 q3
      go_wp2
      all_goals first
        | (go_ret; exact BytesLeft.no (Below.refl _ _))
        | (go_round; (case rel => exact ⟨_, k + 1, by omega, by omega, rfl, by omega, by go_num⟩); (case measure => (simp [intOf]; omega)))
    · clear RK
      by_cases h4 : 1048576 < cond.length
      · go_wp2
        go_ret
        exact BytesLeft.no (Below.refl _ _)
      by_cases h5 : 1048576 < q + cond.length
      · go_wp2
        go_ret
        exact BytesLeft.no (Below.refl _ _)
      go_wp2
      go_loop [9, 11] (fun z i => ∃ (q : Int) (k : Nat), 0 ≤ q ∧ q ≤ 1048576 ∧ z = .int .i64 q ∧ k ≤ cond.length ∧ i = .int .i64 k) (fun _ i => cond.length - (intOf i).toNat)
      case atStart => exact ⟨_, 0, by omega, by omega, rfl, by omega, rfl⟩
      case round =>
        obtain ⟨q', j, hq0', hq1', rfl, hjl, rfl⟩ := hrel
        by_cases hlt2 : j < cond.length
        · obtain ⟨c, hc0⟩ : ∃ c, cond[j]? = some c := ⟨_, List.getElem?_eq_getElem hlt2⟩
          obtain ⟨b, off, hao, hcell⟩ := RC.out
          have hne : condCells cond ≠ [] := fun e => by have := flat_len colCells 2 (fun _ => rfl) cond; rw [show cond.flatMap colCells = [] from e] at this; simp at this; omega
          have hao' := hao hne
          subst hao'
          have q0 : w.cell? ⟨b, off + j * 2, none⟩ = some (.string c.1) := cond_cell hcell hc0 0 _ (by omega) rfl
          have q1 : w.cell? ⟨b, off + j * 2 + 1, none⟩ = some (.string c.2) := cond_cell hcell hc0 1 _ (by omega) rfl
          have b1 : (j : Int) < (cond.length : Int) := by omega
          clear hc0 hao hcell hne RC
          obtain ⟨x0, x1⟩ := c
          simp only at q0 q1
          go_wp2
          all_goals first
            | (go_ret; exact BytesLeft.no (Below.refl _ _))
            | (go_round; (case rel => exact ⟨_, j + 1, by omega, by omega, rfl, by omega, by go_num⟩); (case measure => (simp [intOf]; omega)))
        · clear RC
          go_wp2
          all_goals first
            | (go_ret; exact BytesLeft.no (Below.refl _ _))
            | (go_ret; exact BytesLeft.yes (Below.refl _ _) (by omega) (by omega))

end Go.Proofs.Qxb6614899a
