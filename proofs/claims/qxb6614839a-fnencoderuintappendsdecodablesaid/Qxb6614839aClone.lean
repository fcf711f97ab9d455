/-
  zzCloneBytes (7) BY ITS CONTRACT.
-/
import Derived.Test.Qxb6614839aEncB
import Derived.Lib.SliceRun
import Derived.WideShapes
import Derived.Outline
namespace Go.Proofs.Qxb6614839a
open Go.RowKit

theorem set_step (zs : List Int) (len k : Nat) (hk : k < len) (hz : len ≤ zs.length) :
    (((zs.take k).map (Value.int .u8) ++ List.replicate (len - k) (Value.int .u8 0)).set k (Value.int .u8 (zs.getD k 0))) = (zs.take (k + 1)).map (Value.int .u8) ++ List.replicate (len - (k + 1)) (Value.int .u8 0) := by
  have hl : ((zs.take k).map (Value.int .u8)).length = k := by simp; omega
  obtain ⟨m, hm⟩ : ∃ m, len - k = m + 1 := ⟨len - k - 1, by omega⟩
  have hm' : len - (k + 1) = m := by omega
  rw [hm, hm', List.replicate_succ, List.set_append_right _ _ (by omega), hl, Nat.sub_self, List.set_cons_zero, List.take_succ_eq_append_getElem (by omega)]
  have hd : zs.getD k 0 = zs[k]'(by omega) := by rw [List.getD_eq_getElem?_getD, List.getElem?_eq_getElem (show k < zs.length by omega)]; rfl
  rw [hd, List.map_append, List.map_cons, List.map_nil, List.append_assoc]
  rfl

theorem made_zero (n : Nat) : (madeCells #[Value.int .u8 0] n).toList = List.replicate n (Value.int .u8 0) := by
  apply List.ext_getElem
  · simp [madeCells]
  · intro i h1 h2
    simp [madeCells, Nat.mod_one]

/-- The nil slice's clone is nil. -/
theorem clone_nil (w : World) : Calls Try.prog 7 #[.slice none 0 0] w fun e w' => e = .returned (.slice none 0 0) ∧ w = w' := by
  have q22 : ∀ (w : World) (a : Option Addr) (n c n' c' : Nat), (binOp .eql 22 (.slice a n c) (.slice none n' c')).run Try.prog w = .ok (.bool a.isNone) w := fun w a n c n' c' => Lib.run_eql_slice_nil w _ _ a n c n' c' Try.underlying22
  go_enter Try.func7, Try.ntmps7
  go_wp2
  go_ret
  exact ⟨rfl, rfl⟩

set_option maxHeartbeats 400000 in
theorem clone_plain (b off len cap : Nat) (zs : List Int) (w : World) (hlen : len ≤ 1048576) (hz : len ≤ zs.length) (hbw : 0 < len → b < w.heap.size)
    (hc : ∀ i, i < len → w.cell? ⟨b, off + i, none⟩ = some (.int .u8 (zs.getD i 0))) (x : Addr) (hx : 0 < len → x = ⟨b, off, none⟩) :
    Calls Try.prog 7 #[.slice (some x) len cap] w fun e w' => e = .returned (.slice (some ⟨w.heap.size, 0, none⟩) len len) ∧
      w'.ownsRow w.heap.size 5 1 (.slice (some ⟨w.heap.size, 0, none⟩) len len) len ((zs.take len).map (Value.int .u8)) ∧ Below w.heap.size w w' := by
  have q22 : ∀ (w : World) (a : Option Addr) (n c n' c' : Nat), (binOp .eql 22 (.slice a n c) (.slice none n' c')).run Try.prog w = .ok (.bool a.isNone) w := fun w a n c n' c' => Lib.run_eql_slice_nil w _ _ a n c n' c' Try.underlying22
  obtain ⟨i0, hi, hz0, hz1, hz2⟩ := info_parts Try.info5
  have H : Hid (∀ i, i < len → w.cell? ⟨b, off + i, none⟩ = some (.int .u8 (zs.getD i 0))) := hc
  have HX : Hid (0 < len → x = ⟨b, off, none⟩) := hx
  clear hc hx
  go_enter Try.func7, Try.ntmps7
  go_wp2_with (at_make; refine wpList_make_full _ rfl _ _ 22 rfl w.heap.size 5 i0 (.int .u8 0) 1 Try.underlying22 hi hz0 hz1 .i64 .i64 _ _ len rfl rfl rfl rfl (by rw [hz2]; omega) (by unfold maxLen; omega) (Nat.le_refl _) ?_)
  intro w1 hown hgrow
  rw [made_zero] at hown
  have hb1 : Below w.heap.size w w1 := (Below.refl _ _).grown hgrow (Nat.le_refl _) (fun k hk => by cases hk)
  clear hgrow
  go_wp2
  go_loopw [4] (fun i wr => ∃ k : Nat, k ≤ len ∧ i = .int .i64 k ∧ wr.ownsRow w.heap.size 5 1 (.slice (some ⟨w.heap.size, 0, none⟩) len len) len ((zs.take k).map (Value.int .u8) ++ List.replicate (len - k) (Value.int .u8 0)) ∧ Below w.heap.size w wr) (fun i _ => len - (intOf i).toNat)
  case atStart => exact ⟨0, by omega, rfl, by simpa using hown, hb1⟩
  case round =>
    clear hown hb1
    obtain ⟨k, hk, rfl, hown, hb⟩ := hrel
    by_cases hlt : k < len
    · have hx := HX.out (by omega)
      subst hx
      have a1 : wr.cell? ⟨b, off + k, none⟩ = some (.int .u8 (zs.getD k 0)) := (hb.cell (hbw (by omega))).trans (H.out k hlt)
      have b1 : (k : Int) < (len : Int) := by omega
      have hst := hown.stored k (.int .u8 (zs.getD k 0))
      rw [set_step zs len k hlt hz] at hst
      have hfz := hown.frozenAt k
      have hcl : (wr.cell? ⟨w.heap.size, k, none⟩).isSome = true := by
        rw [hown.cellAt k (by omega)]
        simp
        omega
      obtain ⟨u, hu⟩ := Option.isSome_iff_exists.1 hcl
      have hb2 := hb.setCell (p := ⟨w.heap.size, k, none⟩) (Nat.le_refl _) (.int .u8 (zs.getD k 0))
      have hst1 := hst.1
      clear hcl hst hown
      generalize zs.getD k 0 = z at *
      go_wp2
      go_roundw
      case rel => exact ⟨k + 1, by omega, by go_num, hst1, hb2⟩
      case measure => simp [intOf]; omega
    · have e : k = len := by omega
      subst e
      go_wp2
      go_ret
      exact ⟨rfl, by simpa using hown, hb⟩
/-- A row that came in, told by block and offset. -/
theorem plain_row (x : Addr) (len : Nat) (zs : List Int) (w : World) (hz : len ≤ zs.length) (hc : ∀ i, i < zs.length → w.cell? (x.add i) = some (.int .u8 (zs.getD i 0))) :
    ∃ b off, (0 < len → x = ⟨b, off, none⟩) ∧ (0 < len → b < w.heap.size) ∧ ∀ i, i < len → w.cell? ⟨b, off + i, none⟩ = some (.int .u8 (zs.getD i 0)) := by
  obtain ⟨b, off, spot⟩ := x
  by_cases h : 0 < len
  · have hspot : spot = none := by simpa [Addr.add] using World.cell?_spot (hc 0 (by omega))
    subst hspot
    refine ⟨b, off, fun _ => rfl, fun _ => World.block_lt_of_cell? w ⟨b, off, none⟩ (by have := hc 0 (by omega); simpa [Addr.add] using this), fun i hi => ?_⟩
    have := hc i (by omega)
    rwa [WideShapes.add_plain] at this
  · exact ⟨b, off, fun h' => absurd h' h, fun h' => absurd h' h, fun i hi => by omega⟩

end Go.Proofs.Qxb6614839a
