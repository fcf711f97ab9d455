/-
  zzJoinTooBig (7) BY ITS CONTRACT: it answers; nothing that was there has turned.
-/
import Derived.Test.Qxb6614899aJExprs
namespace Go.Proofs.Qxb6614899a
open Go.RowKit

/-- WHAT IT LEAVES. -/
def SaysBool (w : World) (e : Ending) (w' : World) : Prop := ∃ b : Bool, e = .returned (.bool b) ∧ Below w.heap.size w w'

set_option maxHeartbeats 1600000 in
set_option maxRecDepth 100000 in
theorem tooBig_any (kind : ByteArray) (ks : List KeyC) (cond : List (ByteArray × ByteArray)) (aK aC : Option Addr) (cK cC : Nat) (e0 e1 e2 e3 : ByteArray) (e4 : Bool) (w : World) (hk : ks.length ≤ 1048576) (hc : cond.length ≤ 1048576) (rK : RowOf w aK (keysCells ks)) (rC : RowOf w aC (condCells cond)) :
    Calls Try.prog 7 #[.string kind, .slice aK ks.length cK, .slice aC cond.length cC, .agg #[.string e0, .string e1, .string e2, .string e3, .bool e4]] w fun e w' => SaysBool w e w' := by
  have RK : Hid (RowOf w aK (keysCells ks)) := rK
  have RC : Hid (RowOf w aC (condCells cond)) := rC
  clear rK rC
  go_enter Try.func7, Try.ntmps7
  go_wp2_with fail
  refine (add_some _ _ _ (by omega) (by omega) (by omega)).mono ?_
  rintro e w1 ⟨r1, rfl, g1, k1, rfl⟩
  go_wp2_with fail
  refine (keyBytes_some _ _ _ _ _ _ _ g1 k1).mono ?_
  rintro e w1 ⟨r2, rfl, g2, k2, rfl⟩
  by_cases hr2 : 1048576 < r2
  · go_wp2
    go_ret
    exact ⟨true, rfl, ((Below.refl _ _).alloc (Nat.le_refl _) _).alloc (by simp) _⟩
  go_wp2
  go_loopw [9, 10] (fun z i wr => ∃ (q : Int) (k : Nat), 0 ≤ q ∧ q ≤ 2097152 ∧ z = .int .i64 q ∧ k ≤ ks.length ∧ i = .int .i64 k ∧ Below w.heap.size w wr) (fun _ i _ => ks.length - (intOf i).toNat)
  case atStart => exact ⟨r2, 0, g2, k2, rfl, by omega, rfl, ((Below.refl _ _).alloc (Nat.le_refl _) _).alloc (by simp) _⟩
  case round =>
    clear g1 k1 g2 k2 hr2
    obtain ⟨q, k, hq0, hq1, rfl, hkl, rfl, hB⟩ := hrel
    have hz := hB.size
    by_cases hlt : k < ks.length
    · obtain ⟨key, hkey⟩ : ∃ key, ks[k]? = some key := ⟨_, List.getElem?_eq_getElem hlt⟩
      obtain ⟨b, off, hao, hcell⟩ := RK.out.below hB
      have hne : keysCells ks ≠ [] := fun e => by have := flat_len KeyC.cells 5 (fun _ => rfl) ks; rw [show ks.flatMap KeyC.cells = [] from e] at this; simp at this; omega
      have hao' := hao hne
      subst hao'
      have q0 : wr.cell? ⟨b, off + k * 5, none⟩ = some (.string key.lt) := key_cell hcell hkey 0 _ (by omega) rfl
      have q1 : wr.cell? ⟨b, off + k * 5 + 1, none⟩ = some (.string key.lc) := key_cell hcell hkey 1 _ (by omega) rfl
      have q2 : wr.cell? ⟨b, off + k * 5 + 2, none⟩ = some (.string key.rt) := key_cell hcell hkey 2 _ (by omega) rfl
      have q3 : wr.cell? ⟨b, off + k * 5 + 3, none⟩ = some (.string key.rc) := key_cell hcell hkey 3 _ (by omega) rfl
      have q4 : wr.cell? ⟨b, off + k * 5 + 4, none⟩ = some (.bool key.ns) := key_cell hcell hkey 4 _ (by omega) rfl
      have b1 : (k : Int) < (ks.length : Int) := by omega
      clear hkey hao hcell hne RK RC
      go_wp2_with fail
      refine (keyBytes_some _ _ _ _ _ _ _ hq0 hq1).mono ?_
      rintro e w1 ⟨r3, rfl, g3, k3, rfl⟩
      by_cases hr3 : 1048576 < r3
      · go_wp2
        go_ret
        exact ⟨true, rfl, hB.alloc hz _⟩
      · go_wp2
        go_roundw
        case rel => exact ⟨r3, k + 1, g3, k3, rfl, by omega, by go_num, hB.alloc hz _⟩
        case measure => simp [intOf]; omega
    · clear RK
      go_wp2
      go_loopw [9, 11] (fun z i wr => ∃ (q : Int) (k : Nat), 0 ≤ q ∧ q ≤ 2097152 ∧ z = .int .i64 q ∧ k ≤ cond.length ∧ i = .int .i64 k ∧ Below w.heap.size w wr) (fun _ i _ => cond.length - (intOf i).toNat)
      case atStart => exact ⟨q, 0, hq0, hq1, rfl, by omega, rfl, hB⟩
      case round =>
        clear hB hz
        obtain ⟨q', j, hq0', hq1', rfl, hjl, rfl, hB⟩ := hrel
        have hz := hB.size
        by_cases hlt2 : j < cond.length
        · obtain ⟨c, hc0⟩ : ∃ c, cond[j]? = some c := ⟨_, List.getElem?_eq_getElem hlt2⟩
          obtain ⟨b, off, hao, hcell⟩ := RC.out.below hB
          have hne : condCells cond ≠ [] := fun e => by have := flat_len colCells 2 (fun _ => rfl) cond; rw [show cond.flatMap colCells = [] from e] at this; simp at this; omega
          have hao' := hao hne
          subst hao'
          have q0 : wr.cell? ⟨b, off + j * 2, none⟩ = some (.string c.1) := cond_cell hcell hc0 0 _ (by omega) rfl
          have q1 : wr.cell? ⟨b, off + j * 2 + 1, none⟩ = some (.string c.2) := cond_cell hcell hc0 1 _ (by omega) rfl
          have b1 : (j : Int) < (cond.length : Int) := by omega
          clear hc0 hao hcell hne RC
          go_wp2_with fail
          refine (add_some _ _ _ hq0' hq1' (by omega)).mono ?_
          rintro e w1 ⟨r3, rfl, g3, k3, rfl⟩
          go_wp2_with fail
          refine (add_some _ _ _ g3 k3 (by omega)).mono ?_
          rintro e w1 ⟨r4, rfl, g4, k4, rfl⟩
          go_wp2_with fail
          refine (add_some _ _ _ g4 k4 (by omega)).mono ?_
          rintro e w1 ⟨r5, rfl, g5, k5, rfl⟩
          by_cases hr3 : 1048576 < r5
          · go_wp2
            go_ret
            exact ⟨true, rfl, hB⟩
          · go_wp2
            go_roundw
            case rel => exact ⟨r5, j + 1, g5, k5, rfl, by omega, by go_num, hB⟩
            case measure => simp [intOf]; omega
        · go_wp2
          go_ret
          exact ⟨false, rfl, hB⟩

end Go.Proofs.Qxb6614899a
