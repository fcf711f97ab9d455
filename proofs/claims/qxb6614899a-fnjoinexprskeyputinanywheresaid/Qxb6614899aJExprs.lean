/-
  (*Join).exprs (17), ZZJoinExprs (8) BY THEIR CONTRACTS.
-/
import Derived.Test.Qxb6614899aJJoinWalk
import Derived.Laws.AppendOwnNone
namespace Go.Proofs.Qxb6614899a
open Go.RowKit

theorem news2 (X : World) (n : Nat) (a b : Value) (h0 : X.cell? ⟨n, 0, none⟩ = some a) (h1 : X.cell? ⟨n, 1, none⟩ = some b) : ∀ j u, [a, b][j]? = some u → X.cell? ((⟨n, 0, none⟩ : Addr).add j) = some u := by
  intro j u hj
  match j, hj with
  | 0, hj => simp at hj; subst hj; simpa [Addr.add] using h0
  | 1, hj => simp at hj; subst hj; simpa [Addr.add] using h1

theorem trip_cell {w : World} {N g n cap k : Nat} {ts : List (Value × Value × Bool)} {t : Value × Value × Bool} (hown : w.ownsRow N 62 3 (.slice (some ⟨g, 0, none⟩) n cap) n (tripCells ts)) (ht : ts[k]? = some t) (f : Nat) (u : Value) (hf : f < 3) (hu : [t.1, t.2.1, Value.bool t.2.2][f]? = some u) :
    w.cell? ⟨g, k * 3 + f, none⟩ = some u := by
  have hl : (tripCells ts).length = ts.length * 3 := flat_len _ 3 (fun _ => rfl) ts
  have hk : k < ts.length := (List.getElem?_eq_some_iff.1 ht).1
  rw [hown.cellAt (k * 3 + f) (by have := hown.1; omega), tripCells, flat_get (fun t : Value × Value × Bool => [t.1, t.2.1, Value.bool t.2.2]) 3 (fun _ => rfl) ts k f t hf ht]
  exact hu

theorem tripVals_take_succ (ts : List (Value × Value × Bool)) (k : Nat) (t : Value × Value × Bool) (h : ts[k]? = some t) : tripVals (ts.take (k + 1)) = tripVals (ts.take k) ++ [t.1, t.2.1] := by
  rw [take_snoc_some ts k t h, tripVals, List.flatMap_append]
  simp [tripVals]

theorem trip_ref {w : World} {ts : List (Value × Value × Bool)} {keys : List (ByteArray × ByteArray)} (hR : Refs w (tripVals ts) keys) {k : Nat} {t : Value × Value × Bool} (ht : ts[k]? = some t) :
    ∃ b1 b2, t.1 = .iface 65 (.pointer (some ⟨b1, 0, none⟩)) ∧ t.2.1 = .iface 65 (.pointer (some ⟨b2, 0, none⟩)) := by
  have e1 : (tripVals ts)[k * 2 + 0]? = some t.1 := by rw [tripVals, flat_get (fun t : Value × Value × Bool => [t.1, t.2.1]) 2 (fun _ => rfl) ts k 0 t (by omega) ht]; rfl
  have e2 : (tripVals ts)[k * 2 + 1]? = some t.2.1 := by rw [tripVals, flat_get (fun t : Value × Value × Bool => [t.1, t.2.1]) 2 (fun _ => rfl) ts k 1 t (by omega) ht]; rfl
  have h1 := (List.getElem?_eq_some_iff.1 e1).1
  have h2 := (List.getElem?_eq_some_iff.1 e2).1
  have hl := hR.1
  obtain ⟨b1, e, _⟩ := hR.2 _ _ _ e1 (List.getElem?_eq_getElem (by omega))
  obtain ⟨b2, e', _⟩ := hR.2 _ _ _ e2 (List.getElem?_eq_getElem (by omega))
  exact ⟨b1, b2, e, e'⟩

theorem refs_oneCell {w : World} {vs : List Value} {cs : List (ByteArray × ByteArray)} (h : Refs w vs cs) : ∀ u ∈ vs, u.oneCell' = true := by
  intro u hu
  obtain ⟨i, hi, rfl⟩ := List.mem_iff_getElem.1 hu
  obtain ⟨b, e, _⟩ := h.2 i _ _ (List.getElem?_eq_getElem hi) (List.getElem?_eq_getElem (by rw [← h.1]; exact hi))
  rw [e]
  rfl

theorem own_form {w : World} {B e : Nat} {v : Value} {n : Nat} {xs : List Value} {size : Nat} (h : w.ownsRow B e size v n xs) : ∃ ao cap, v = .slice ao n cap := by
  rcases h.2 with ⟨rfl, rfl⟩ | ⟨g, cap, cur, rfl, _⟩
  · exact ⟨none, 0, rfl⟩
  · exact ⟨_, cap, rfl⟩

set_option maxHeartbeats 1600000 in
set_option maxRecDepth 100000 in
theorem exprs_any (N j : Nat) (kind : ByteArray) (aoK aoC : Option Addr) (nK capK nC capC : Nat) (ts : List (Value × Value × Bool)) (cs : List Value) (keys cond : List (ByteArray × ByteArray)) (w : World)
    (hJ : JoinAt w N j kind aoK aoC nK capK nC capC ts cs keys cond) (hk : nK ≤ 1048577) (hc : nC ≤ 1048576) :
    Calls Try.prog 17 #[.pointer (some ⟨j, 0, none⟩)] w fun e w' => ∃ ao cap, e = .returned (.slice ao (2 * nK + nC) cap) ∧ w'.ownsRow w.heap.size 35 1 (.slice ao (2 * nK + nC) cap) (2 * nK + nC) (tripVals ts ++ cs) ∧ Below w.heap.size w w' := by
  obtain ⟨i35, hi35, hz35, hs35, hb35⟩ := info_parts Try.info35
  have c1 : w.cell? ⟨j, 1, none⟩ = some (.slice aoK nK capK) := by simp [World.cell?, hJ.blk]
  have c2 : w.cell? ⟨j, 2, none⟩ = some (.slice aoC nC capC) := by simp [World.cell?, hJ.blk]
  have hj := lt_of_block hJ.blk
  have hlen : ts.length = nK := by have h1 : (tripCells ts).length = ts.length * 3 := flat_len _ 3 (fun _ => rfl) ts; have := hJ.ownK.1; omega
  have HL : Hid (ts.length = nK) := hlen
  have OK : Hid (w.ownsRow N 62 3 (.slice aoK nK capK) nK (tripCells ts)) := hJ.ownK
  have OC : Hid (w.ownsRow N 35 1 (.slice aoC nC capC) nC cs) := hJ.ownC
  have RK : Hid (Refs w (tripVals ts) keys) := hJ.refK
  have RC : Hid (Refs w cs cond) := hJ.refC
  clear hJ hlen
  go_enter Try.func17, Try.ntmps17
  go_wp2
  go_loopw [3, 11] (fun v i wr => ∃ k : Nat, k ≤ nK ∧ i = .int .i64 k ∧ wr.ownsRow w.heap.size 35 1 v (2 * k) (tripVals (ts.take k)) ∧ Below w.heap.size w wr) (fun _ i _ => nK - (intOf i).toNat)
  case atStart => exact ⟨0, by omega, rfl, World.ownsRow_nil _ _ _ _, Below.refl _ _⟩
  case round =>
    obtain ⟨k, hkl, rfl, hown, hB⟩ := hrel
    by_cases hlt : k < nK
    · obtain ⟨t, ht⟩ : ∃ t, ts[k]? = some t := ⟨_, List.getElem?_eq_getElem (by have := HL.out; omega)⟩
      obtain ⟨g, capg, hg, _, hglt⟩ := OK.out.form (by omega)
      simp only [Value.slice.injEq, true_and] at hg
      obtain ⟨rfl, rfl⟩ := hg
      have q0 : wr.cell? ⟨g, k * 3, none⟩ = some t.1 := cell_later hB (trip_cell OK.out ht 0 _ (by omega) rfl)
      have q1 : wr.cell? ⟨g, k * 3 + 1, none⟩ = some t.2.1 := cell_later hB (trip_cell OK.out ht 1 _ (by omega) rfl)
      have q2 : wr.cell? ⟨g, k * 3 + 2, none⟩ = some (.bool t.2.2) := cell_later hB (trip_cell OK.out ht 2 _ (by omega) rfl)
      have b1 : (k : Int) < (nK : Int) := by omega
      have HT : Hid _ := tripVals_take_succ ts k t ht
      obtain ⟨r1, r2, e1, e2⟩ := trip_ref RK.out ht
      obtain ⟨t1, t2, t3⟩ := t
      simp only at q0 q1 q2 e1 e2
      subst e1 e2
      clear ht
      have hz := hB.size
      go_wp2_with (at_builtin; refine wpList_append_own _ rfl _ _ 28 rfl w.heap.size 35 i35 .nilIface 1 16 Try.underlying28 hi35 hz35 hs35 hb35 rfl (by decide) _ _ _ rfl ((hown.alloc _).alloc _) ⟨wr.heap.size + 1, 0, none⟩ 2 2 [.iface 65 (.pointer (some ⟨r1, 0, none⟩)), .iface 65 (.pointer (some ⟨r2, 0, none⟩))] rfl rfl (news2 _ _ _ _ (by first | (simp; done) | (simp; exact cell_last _ _ _ _ _ _ (by simp) rfl)) (by first | (simp; done) | (simp; exact cell_last _ _ _ _ _ _ (by simp) rfl))) (by simp [Value.oneCell']) (by unfold maxLen; omega) (by omega) (by simp; omega) ?_)
      intro v' w1 hown' hgrow _
      have hB1 : Below w.heap.size w w1 := Below.grown ((hB.alloc hz _).alloc (by simp; omega) _) hgrow (by simp; omega) (fun q hq => (hown.lt q hq).1)
      clear hgrow hown hB q0 q1 q2
      go_wp2
      go_roundw
      case rel => exact ⟨k + 1, by omega, by go_num, by rw [HT.out]; exact hown', hB1⟩
      case measure => simp [intOf]; omega
    · have ek : k = nK := by omega
      subst ek
      rw [show ts.take k = ts from List.take_of_length_le (by have := HL.out; omega)] at hown
      have c2' : wr.cell? ⟨j, 2, none⟩ = some (.slice aoC nC capC) := cell_later hB c2
      have hz := hB.size
      rcases OC.out.2 with ⟨hv, h0⟩ | ⟨g, capg, cur, hv, _, hg, _⟩
      · simp only [Value.slice.injEq] at hv
        obtain ⟨rfl, rfl, rfl⟩ := hv
        have hcs : cs = [] := List.eq_nil_of_length_eq_zero (by simpa using OC.out.1)
        subst hcs
        go_wp2_with (at_builtin; refine wpList_append_own_none rfl _ _ 28 rfl w.heap.size 35 i35 1 Try.underlying28 hi35 _ _ _ rfl hown rfl ?_)
        go_wp2
        go_ret
        obtain ⟨ao, cap, hv⟩ := own_form hown
        rw [hv] at hown ⊢
        exact ⟨ao, cap, rfl, by simpa using hown, hB⟩
      · simp only [Value.slice.injEq, true_and] at hv
        obtain ⟨rfl, rfl⟩ := hv
        go_wp2_with (at_builtin; refine wpList_append_own _ rfl _ _ 28 rfl w.heap.size 35 i35 .nilIface 1 16 Try.underlying28 hi35 hz35 hs35 hb35 rfl (by decide) _ _ _ rfl hown ⟨g, 0, none⟩ nC capC cs rfl ?d0 ?d1 ?d2 ?d3 ?d4 ?d5 ?_)
        case d0 => exact OC.out.1
        case d1 => exact fun j' u hu => cell_later hB (OC.out.cells rfl j' u hu)
        case d2 => exact refs_oneCell RC.out
        case d3 => unfold maxLen; omega
        case d4 => omega
        case d5 => exact hz
        intro v' w1 hown' hgrow _
        have hB1 : Below w.heap.size w w1 := hB.grown hgrow hz (fun q hq => (hown.lt q hq).1)
        clear hgrow hown hB
        go_wp2
        go_ret
        obtain ⟨ao, cap, hv⟩ := own_form hown'
        rw [hv] at hown' ⊢
        exact ⟨ao, cap, rfl, hown', hB1⟩

/-- THE EXPRESSIONS OF A SLICE, AS A LAW READS THEM. -/
def ExprsAt (w : World) (ao : Option Addr) (cols : List (ByteArray × ByteArray)) : Prop :=
  ∃ g, (0 < cols.length → ao = some ⟨g, 0, none⟩) ∧ ∀ i c, cols[i]? = some c → ∃ b, w.cell? ⟨g, i, none⟩ = some (.iface 65 (.pointer (some ⟨b, 0, none⟩))) ∧ w.heap[b]? = some (.cells #[.string c.1, .string c.2] 67 (0, 0))

theorem ExprsAt.below {w w' : World} {ao : Option Addr} {cols : List (ByteArray × ByteArray)} (h : ExprsAt w ao cols) (hb : Below w.heap.size w w') : ExprsAt w' ao cols := by
  obtain ⟨g, h1, h2⟩ := h
  refine ⟨g, h1, fun i c hc => ?_⟩
  obtain ⟨b, h3, h4⟩ := h2 i c hc
  exact ⟨b, cell_later hb h3, (hb.block b (lt_of_block h4)).trans h4⟩

theorem exprsAt_of {w : World} {B : Nat} {ao : Option Addr} {n cap : Nat} {vs : List Value} {cols : List (ByteArray × ByteArray)} (h : w.ownsRow B 35 1 (.slice ao n cap) n vs) (hr : Refs w vs cols) : ExprsAt w ao cols := by
  have hl := h.1
  have hl2 := hr.1
  rcases h.2 with ⟨hv, h0⟩ | ⟨g, cap', cur, hv, _⟩
  · refine ⟨0, fun hp => by omega, fun i c hc => ?_⟩
    have := (List.getElem?_eq_some_iff.1 hc).1
    omega
  · simp only [Value.slice.injEq, true_and] at hv
    obtain ⟨rfl, rfl⟩ := hv
    refine ⟨g, fun _ => rfl, fun i c hc => ?_⟩
    have hi := (List.getElem?_eq_some_iff.1 hc).1
    have hv : vs[i]? = some vs[i] := List.getElem?_eq_getElem (by omega)
    obtain ⟨b, e, hb⟩ := hr.2 i _ c hv hc
    exact ⟨b, by rw [h.cellAt i (by omega), hv, e], hb⟩

theorem joinExprs_any (N j : Nat) (kind : ByteArray) (aoK aoC : Option Addr) (nK capK nC capC : Nat) (ts : List (Value × Value × Bool)) (cs : List Value) (keys cond : List (ByteArray × ByteArray)) (w : World)
    (hJ : JoinAt w N j kind aoK aoC nK capK nC capC ts cs keys cond) (hk : nK ≤ 1048577) (hc : nC ≤ 1048576) :
    Calls Try.prog 8 #[.pointer (some ⟨j, 0, none⟩)] w fun e w' => ∃ ao cap, e = .returned (.slice ao (2 * nK + nC) cap) ∧ ExprsAt w' ao (keys ++ cond) ∧ Below w.heap.size w w' := by
  have HJ : Hid (JoinAt w N j kind aoK aoC nK capK nC capC ts cs keys cond) := hJ
  clear hJ
  go_enter Try.func8, Try.ntmps8
  go_wp2_with fail
  refine (exprs_any N j kind aoK aoC nK capK nC capC ts cs keys cond w HJ.out hk hc).mono ?_
  rintro e w1 ⟨ao, cap, rfl, hown, hB⟩
  go_wp2
  go_ret
  exact ⟨ao, cap, rfl, exprsAt_of hown ((HJ.out.refK.steady (Steady.of_below (T := []) hB) (by decide)).append (HJ.out.refC.steady (Steady.of_below (T := []) hB) (by decide))), hB⟩

end Go.Proofs.Qxb6614899a
