/-
  skipContainer.
-/
import Derived.Test.Qxb6616012aGRow
import Derived.Deep.Cut
import Derived.Deep.CutRange
import Derived.Deep.AppendLies
import Derived.WideShapes
namespace Go.Proofs.Qxb6616012a.G
open Go.RowKit

def stk (st : List Int) : List Value := st.reverse.map (Value.int .u8)
theorem stk_cons (c : Int) (st : List Int) : stk (c :: st) = stk st ++ [.int .u8 c] := by simp [stk]
theorem stk_len (st : List Int) : (stk st).length = st.length := by simp [stk]
theorem closer_ok (c : Int) : closer c = 125 ∨ closer c = 93 := by unfold closer; split <;> simp
theorem backH {S : World → Prop} {R K : Act → World → Prop} (hK : Shut (∀ a w, S w → (S w → R a w) → K a w)) {a : Act} {w : World} (hS : S w) (h : S w → R a w) : K a w := hK a w hS h

set_option linter.unusedSimpArgs false in
set_option maxHeartbeats 2000000 in
set_option maxRecDepth 100000 in
theorem skipContainer_any (s g n cap : Nat) (D : Nat → Int) (hby : ∀ i, 0 ≤ D i ∧ D i < 256) (dep : Nat) (p : Nat) (w : World) (h : Spl w s g n cap D dep p false) (hp : p < n) (hn : n ≤ 1048576) (hd : dep ≤ 10000) (ho : D p = 123 ∨ D p = 91) (hg : g < w.heap.size) :
    Calls Try.prog 18 #[.pointer (some ⟨s, 0, none⟩)] w fun e w' => Below s w w' ∧ ∃ b q f, e = .returned (.bool b) ∧ Spl w' s g n cap D dep q f ∧ ((b = true ∧ f = false ∧ val D n p dep = .ok q) ∨ (b = false ∧ val D n p dep = .error f ∧ p ≤ q ∧ q ≤ n)) := by
  obtain ⟨i5, hi5, hz5, hs5, hb5⟩ := info_parts Try.info5
  have hsz : s < w.heap.size := lt_of_block h.blk
  obtain ⟨R, hR⟩ : ∃ R, val D n p dep = R := ⟨_, rfl⟩
  rw [hR]
  have HR : Hid (val D n p dep = R) := hR
  have H0 : Hid (Spl w s g n cap D dep p false) := h
  clear hR h
  go_enter Try.func18, Try.ntmps18
  go_wp2_with fail
  go_loopw [4] (fun v wr => ∃ (st : List Int) (r cp q : Nat), v = .slice (some ⟨r, 0, none⟩) st.length cp ∧ RowB wr r cp st.length (stk st) ∧ w.heap.size ≤ r ∧ Spl wr s g n cap D dep q false ∧ p ≤ q ∧ q < n ∧ (D q = 123 ∨ D q = 91) ∧ full D n dep st (val D n q (dep + st.length)) = R ∧ dep + st.length ≤ 10000 ∧ (∀ c ∈ st, c = 125 ∨ c = 93) ∧ Below s w wr) (fun _ wr => n - atOf s wr)
  case atStart =>
    refine ⟨[], w.heap.size, 64, p, rfl, RowB.room w, Nat.le_refl _, ?_, Nat.le_refl _, hp, ho, HR.out, hd, fun c hc => (by cases hc), (Below.refl _ _).alloc (by omega) _⟩
    exact ⟨(Below.heap_alloc _ _ _ hsz).trans H0.out.blk, fun i hi => (World.cell?_of_block (w := w) (Below.heap_alloc _ _ _ hg)).trans (H0.out.dat i hi), H0.out.ne, H0.out.le⟩
  case round =>
    obtain ⟨st, r, cp, q, rfl, hrow, hr, hS, hpq, hqn, hop, hF, hdl, hst, hB⟩ := hrel
    obtain ⟨c0, c1, c2, c3, f1, f3⟩ := hS.cells
    have HS : Hid (Spl wr s g n cap D dep q false) := hS
    have HB : Hid (Below s w wr) := hB
    have HW : Hid (RowB wr r cp st.length (stk st)) := hrow
    have HF : Hid (full D n dep st (val D n q (dep + st.length)) = R) := hF
    have HT : Hid (∀ c ∈ st, c = 125 ∨ c = 93) := hst
    have HO : Hid (D q = 123 ∨ D q = 91) := hop
    clear hS hB hrow hF hst hop H0 HR
    by_cases hdp : dep + st.length = 10000
    · have t1 : ((dep : Int) + (st.length : Int) == 10000) = true := by rw [beq_iff_eq]; omega
      have E : Hid (R = .error false) := by
        have := HF.out
        rw [val_eq, if_neg (by omega), if_pos HO.out, if_pos (by omega), full_error] at this
        exact this.symm
      go_wp2
      go_ret
      exact ⟨HB.out, false, q, false, rfl, HS.out, Or.inr ⟨rfl, E.out, hpq, by omega⟩⟩
    have t1 : ((dep : Int) + (st.length : Int) == 10000) = false := by rw [beq_eq_false_iff_ne]; omega
    have b1 : (q : Int) < (n : Int) := by omega
    have d0 := HS.out.dat q hqn
    have hz0 := HB.out.size
    have hrs : r ≠ s := by omega
    have hsw : s < wr.heap.size := by omega
    have hgw : g < wr.heap.size := by omega
    have hrl := HW.out.lt
    have hmx := HW.out.top
    go_upto_region 5 with fail
    go_cut [4] from 7 to 64 (fun v wx => ∃ r' cp', v = .slice (some ⟨r', 0, none⟩) (st.length + 1) cp' ∧ RowB wx r' cp' (st.length + 1) (stk st ++ [.int .u8 (closer (D q))]) ∧ w.heap.size ≤ r' ∧ Spl wx s g n cap D dep q false ∧ Below s w wx)
    case first =>
      refine wp_region_noPanic ?_
      refine wp_region_held_drew (S := fun W => W.cell? ⟨s, 0, none⟩ = some (.slice (some ⟨g, 0, none⟩) n cap) ∧ W.cell? ⟨s, 1, none⟩ = some (.int .i64 q) ∧ W.cell? ⟨g, q, none⟩ = some (.int .u8 (D q))) (by kernel_rfl) ?_ (fun hHeld => ?_)
      · exact ⟨c0, c1, d0⟩
      refine wpAnyH_take (i := 0) (v := ?v0) rfl (by kernel_rfl) (by kernel_rfl) (by kernel_rfl) (fun _ _ _ h => h) (Or.inl ⟨by rfl, ?y0⟩) hHeld ?r0
      case y0 => (intro W hSw; obtain ⟨s0, s1, s2⟩ := hSw; go_simp; try with_reducible rfl)
      simp only [Act.put, List.setIfInBounds_toArray, List.set_cons_zero, List.set_cons_succ]
      refine wpAnyH_take (i := 1) (v := ?v1) rfl (by kernel_rfl) (by kernel_rfl) (by kernel_rfl) (fun _ _ _ h => h) (Or.inl ⟨by rfl, ?y1⟩) hHeld ?r1
      case y1 => (intro W hSw; obtain ⟨s0, s1, s2⟩ := hSw; go_simp; try with_reducible rfl)
      simp only [Act.put, List.setIfInBounds_toArray, List.set_cons_zero, List.set_cons_succ]
      refine wpAnyH_take (i := 2) (v := ?v2) rfl (by kernel_rfl) (by kernel_rfl) (by kernel_rfl) (fun _ _ _ h => h) (Or.inl ⟨by rfl, ?y2⟩) hHeld ?r2
      case y2 => (intro W hSw; obtain ⟨s0, s1, s2⟩ := hSw; go_simp; try with_reducible rfl)
      simp only [Act.put, List.setIfInBounds_toArray, List.set_cons_zero, List.set_cons_succ]
      refine wpAnyH_take (i := 3) (v := ?v3) rfl (by kernel_rfl) (by kernel_rfl) (by kernel_rfl) (fun _ _ _ h => h) (Or.inl ⟨by rfl, ?y3⟩) hHeld ?r3
      case y3 => (intro W hSw; obtain ⟨s0, s1, s2⟩ := hSw; go_simp; try with_reducible rfl)
      simp only [Act.put, List.setIfInBounds_toArray, List.set_cons_zero, List.set_cons_succ]
      refine wpAnyH_take (i := 4) (v := ?v4) rfl (by kernel_rfl) (by kernel_rfl) (by kernel_rfl) (fun _ _ _ h => h) (Or.inl ⟨by rfl, ?y4⟩) hHeld ?r4
      case y4 => (intro W hSw; obtain ⟨s0, s1, s2⟩ := hSw; go_simp; try with_reducible rfl)
      simp only [Act.put, List.setIfInBounds_toArray, List.set_cons_zero, List.set_cons_succ]
      refine wpAnyH_take (i := 5) (v := ?v5) rfl (by kernel_rfl) (by kernel_rfl) (by kernel_rfl) (fun _ _ _ h => h) (Or.inl ⟨by rfl, ?y5⟩) hHeld ?r5
      case y5 => (intro W hSw; obtain ⟨s0, s1, s2⟩ := hSw; go_simp; try with_reducible rfl)
      simp only [Act.put, List.setIfInBounds_toArray, List.set_cons_zero, List.set_cons_succ]
      refine wpAnyH_take (i := 6) (v := ?v6) rfl (by kernel_rfl) (by kernel_rfl) (by kernel_rfl) (fun _ _ _ h => h) (Or.inl ⟨by rfl, ?y6⟩) hHeld ?r6
      case y6 => (intro W hSw; obtain ⟨s0, s1, s2⟩ := hSw; go_simp; try with_reducible rfl)
      simp only [Act.put, List.setIfInBounds_toArray, List.set_cons_zero, List.set_cons_succ]
      refine wpAnyH_take (i := 7) (v := ?v7) rfl (by kernel_rfl) (by kernel_rfl) (by kernel_rfl) (fun _ _ _ h => h) (Or.inl ⟨by rfl, ?y7⟩) hHeld ?r7
      case y7 => (intro W hSw; obtain ⟨s0, s1, s2⟩ := hSw; go_simp; try with_reducible rfl)
      simp only [Act.put, List.setIfInBounds_toArray, List.set_cons_zero, List.set_cons_succ]
      refine wpAnyH_take (i := 8) (v := ?v8) rfl (by kernel_rfl) (by kernel_rfl) (by kernel_rfl) (fun _ _ _ h => h) (Or.inl ⟨by rfl, ?y8⟩) hHeld ?r8
      case y8 => (intro W hSw; obtain ⟨s0, s1, s2⟩ := hSw; go_simp; try with_reducible rfl)
      simp only [Act.put, List.setIfInBounds_toArray, List.set_cons_zero, List.set_cons_succ]
      refine wpAnyH_take (i := 9) (v := ?v9) rfl (by kernel_rfl) (by kernel_rfl) (by kernel_rfl) (fun _ _ _ h => h) (Or.inl ⟨by rfl, ?y9⟩) hHeld ?r9
      case y9 => (intro W hSw; obtain ⟨s0, s1, s2⟩ := hSw; go_simp; try with_reducible rfl)
      simp only [Act.put, List.setIfInBounds_toArray, List.set_cons_zero, List.set_cons_succ]
      refine wpAnyH_take (i := 10) (v := ?v10) rfl (by kernel_rfl) (by kernel_rfl) (by kernel_rfl) (fun _ _ _ h => h) (Or.inl ⟨by rfl, ?y10⟩) hHeld ?r10
      case y10 => (intro W hSw; obtain ⟨s0, s1, s2⟩ := hSw; go_simp; try with_reducible rfl)
      simp only [Act.put, List.setIfInBounds_toArray, List.set_cons_zero, List.set_cons_succ]
      refine wpAnyH_ready (rs := [11]) (by kernel_rfl) (by simp) ?_
      refine AllReadyH.cons rfl (fun K hK => ?_) AllReadyH.nil
      go_simp
      refine (closing_any (D q) _).mono ?_
      rintro e w2 ⟨rfl, rfl⟩
      go_wp2_with fail
      refine backH hK hHeld (fun hHeld => ?_)
      clear hK K
      try simp only [Act.put, List.setIfInBounds_toArray, List.set_cons_zero, List.set_cons_succ]
      refine wpAnyH_ready (rs := [12]) (by kernel_rfl) (by simp) ?_
      refine AllReadyH.cons rfl (fun K hK => ?_) AllReadyH.nil
      go_simp
      have aS : Spl (wr.alloc (Obj.cells #[Value.int .u8 (closer (D q))] 5)).drew s g n cap D dep q false := ⟨(Below.heap_alloc wr _ _ hsw).trans HS.out.blk, fun i hi => (World.cell?_of_block (w := wr) (Below.heap_alloc wr _ _ hgw)).trans (HS.out.dat i hi), HS.out.ne, HS.out.le⟩
      have aR : RowB (wr.alloc (Obj.cells #[Value.int .u8 (closer (D q))] 5)).drew r cp st.length (stk st) := HW.out.same (Below.heap_alloc wr _ _ hrl)
      have aB : Below s w (wr.alloc (Obj.cells #[Value.int .u8 (closer (D q))] 5)).drew := (HB.out.alloc (by omega) _).drew
      have aN : (wr.alloc (Obj.cells #[Value.int .u8 (closer (D q))] 5)).drew.heap[wr.heap.size]? = some (Obj.cells #[Value.int .u8 (closer (D q))] 5 (0, 0)) := heap_alloc_new wr _
      have aZ : (wr.alloc (Obj.cells #[Value.int .u8 (closer (D q))] 5)).drew.heap.size = wr.heap.size + 1 := by simp [World.drew]
      generalize (wr.alloc (Obj.cells #[Value.int .u8 (closer (D q))] 5)).drew = W at *
      refine backH hK ⟨aS.cells.1, aS.cells.2.1, aS.dat q hqn⟩ (fun hHeld => ?_)
      clear hK K hHeld
      try simp only [Act.put, List.setIfInBounds_toArray, List.set_cons_zero, List.set_cons_succ]
      refine wpAnyH_ready (rs := [13]) (by kernel_rfl) (by simp) ?_
      refine AllReadyH.cons (o := ⟨some 28, _, _, _, _, none⟩) rfl (fun K hK => ?_) AllReadyH.nil
      by_cases hroom : st.length + 1 ≤ cp
      · refine step_append_room (by rfl) (.tmp 15) (.tmp 27) 28 (by rfl) 5 i5 1 Try.underlying28 hi5 hs5 r 0 st.length cp (by rfl) ⟨wr.heap.size, 0, none⟩ 1 1 [.int .u8 (closer (D q))] (by rfl) rfl (World.news_of_block aN) (by simp [Value.oneCell']) hroom (fun j hj => by
          have e : 0 + st.length * 1 + j = st.length := by simp at hj; omega
          rw [e]
          exact aR.spare hroom) ?_
        rw [show 0 + st.length * 1 = st.length by omega]
        have bS : Spl (W.setCells r st.length [.int .u8 (closer (D q))]) s g n cap D dep q false := ⟨(Below.heap_setCell W _ _ _ (by simpa using hrs.symm)).trans aS.blk, fun i hi => (World.cell?_of_block (w := W) (Below.heap_setCell W _ _ _ (by show g ≠ r; omega))).trans (aS.dat i hi), aS.ne, aS.le⟩
        have bR : RowB (W.setCells r st.length [.int .u8 (closer (D q))]) r cp (st.length + 1) (stk st ++ [.int .u8 (closer (D q))]) := aR.push hroom _
        have bB : Below s w (W.setCells r st.length [.int .u8 (closer (D q))]) := aB.setCell (by show s ≤ r; omega) _
        generalize W.setCells r st.length [.int .u8 (closer (D q))] = W2 at *
        refine backH hK ⟨bS.cells.1, bS.cells.2.1, bS.dat q hqn⟩ (fun hHeld => ?_)
        clear hK K aS aR aB aN aZ
        try simp only [Act.put, List.setIfInBounds_toArray, List.set_cons_zero, List.set_cons_succ]
        refine wpAnyH_take (i := 14) (oi := ⟨some 4, _, _, _, _, none⟩) (v := ?v14) rfl (by kernel_rfl) (by kernel_rfl) (by kernel_rfl) (fun _ _ _ h => h) (Or.inl ⟨by rfl, ?y14⟩) hHeld ?r14
        case y14 => (intro W hSw; clear hSw; go_simp; try with_reducible rfl)
        try simp only [Act.put, List.setIfInBounds_toArray, List.set_cons_zero, List.set_cons_succ]
        refine wpAnyH_done (by kernel_rfl) ?_ _
        refine NoPanic.normal ?_
        go_wp2
        go_meet
        case rel => exact ⟨r, cp, rfl, bR, hr, bS, bB⟩
      · refine step_append_grows (by rfl) (.tmp 15) (.tmp 27) 28 (by rfl) 5 i5 _ 1 1 Try.underlying28 hi5 hz5 hs5 hb5 rfl (by omega) (some ⟨r, 0, none⟩) st.length cp (stk st) (by rfl) (by intro h; cases h) (by simp [stk]) (fun b hb j u hj => by
          cases hb
          rw [WideShapes.add_plain, Nat.zero_add]
          exact aR.cell j u hj) ⟨wr.heap.size, 0, none⟩ 1 1 [.int .u8 (closer (D q))] (by rfl) rfl (World.news_of_block aN) (by simp [Value.oneCell']) (by omega) (by unfold maxLen; omega) (by omega) ?_
        intro v' W2 hown hgrow
        obtain ⟨r2, cp2, rfl, hr2, bR⟩ := RowB.of_own hown (by omega)
        have bS : Spl W2 s g n cap D dep q false := ⟨(hgrow.block s (by omega) (by simp)).trans aS.blk, fun i hi => (World.cell?_of_block (w := W) (hgrow.block g (by omega) (by simp))).trans (aS.dat i hi), aS.ne, aS.le⟩
        have bB : Below s w W2 := aB.grown hgrow (by omega) (fun k hk => by cases hk)
        refine backH hK ⟨bS.cells.1, bS.cells.2.1, bS.dat q hqn⟩ (fun hHeld => ?_)
        clear hK K aS aR aB aN hgrow hown
        try simp only [Act.put, List.setIfInBounds_toArray, List.set_cons_zero, List.set_cons_succ]
        refine wpAnyH_take (i := 14) (oi := ⟨some 4, _, _, _, _, none⟩) (v := ?v14b) rfl (by kernel_rfl) (by kernel_rfl) (by kernel_rfl) (fun _ _ _ h => h) (Or.inl ⟨by rfl, ?y14b⟩) hHeld ?r14b
        case y14b => (intro W hSw; clear hSw; go_simp; try with_reducible rfl)
        try simp only [Act.put, List.setIfInBounds_toArray, List.set_cons_zero, List.set_cons_succ]
        refine wpAnyH_done (by kernel_rfl) ?_ _
        refine NoPanic.normal ?_
        go_wp2
        go_meet
        case rel => exact ⟨r2, cp2, rfl, bR, by omega, bS, bB⟩
    case rest =>
      obtain ⟨r1, cp1, rfl, hrow1, hr1, hS1, hB1⟩ := hcut
      clear c0 c1 c2 c3 f1 f3 d0 hrl hrs hmx hsw hgw HW
      have HF1 : Hid (full D n dep st (head D n true (closer (D q)) (ws D n (q + 1)) (dep + st.length)) = R) := by
        have := HF.out
        rw [val_eq, if_neg (by omega), if_pos HO.out, if_neg (by omega)] at this
        exact this
      have hrs : r1 ≠ s := by omega
      obtain ⟨c0, c1, c2, c3, f1, f3⟩ := hS1.cells
      have hS2 := hS1.setAt ((q : Int) + 1) (q + 1) (by omega)
      have hR2 : RowB (wc.setCell ⟨s, 1, none⟩ (.int .i64 ((q : Int) + 1))) r1 cp1 (st.length + 1) (stk st ++ [.int .u8 (closer (D q))]) := hrow1.same (Below.heap_setCell _ _ _ _ hrs)
      have hB2 : Below s w (wc.setCell ⟨s, 1, none⟩ (.int .i64 ((q : Int) + 1))) := hB1.setCell (Nat.le_refl _) _
      have hcl := closer_ok (D q)
      clear HF HO hrow1 hS1 hB1
      have HQ : Hid (atOf s wr = q) := HS.out.at
      clear HS HB
      go_wp2_with fail
      clear c0 c1 c2 c3 f1 f3 t1
      go_loopw [4, 5] (fun v4 v5 wx => ∃ (c : Int) (st : List Int) (r cp q2 i : Nat), v4 = .slice (some ⟨r, 0, none⟩) (st.length + 1) cp ∧ v5 = .int .i64 i ∧ RowB wx r cp (st.length + 1) (stk st ++ [.int .u8 c]) ∧ w.heap.size ≤ r ∧ Spl wx s g n cap D dep q2 false ∧ q < q2 ∧ q2 ≤ n ∧ i ≤ q2 ∧ full D n dep st (head D n (decide (i = 0)) c (ws D n q2) (dep + st.length)) = R ∧ dep + st.length + 1 ≤ 10000 ∧ (c = 125 ∨ c = 93) ∧ (∀ c ∈ st, c = 125 ∨ c = 93) ∧ Below s w wx) (fun _ _ wx => n - atOf s wx)
      case atStart => exact ⟨closer (D q), st, r1, cp1, q + 1, 0, rfl, rfl, hR2, hr1, hS2, by omega, by omega, by omega, HF1.out, by omega, hcl, HT.out, hB2⟩
      case round =>
        clear hS2 hR2 hB2 hcl HF1 HT hrs hr1 hr hz0 hdp hdl
        obtain ⟨c, st, r, cp, q2, i, rfl, rfl, hrow, hr, hS, hqq, hq2, hiq, hF, hdl, hc, hst, hB⟩ := hrel
        have hrs : r ≠ s := by omega
        have hcell : wr.cell? ⟨r, st.length, none⟩ = some (.int .u8 c) := hrow.cell st.length _ (by rw [List.getElem?_append_right (by rw [stk_len]; omega), stk_len]; simp)
        have hle := hrow.le
        have HW : Hid (RowB wr r cp (st.length + 1) (stk st ++ [.int .u8 c])) := hrow
        have HS : Hid (Spl wr s g n cap D dep q2 false) := hS
        have HB : Hid (Below s w wr) := hB
        have HF : Hid (full D n dep st (head D n (decide (i = 0)) c (ws D n q2) (dep + st.length)) = R) := hF
        have HT : Hid (∀ c ∈ st, c = 125 ∨ c = 93) := hst
        clear hrow hS hB hF hst
        go_wp2_with fail
        refine (nextIn_any s g n cap D dep q2 i c hc wr HS.out hq2 hn).mono ?_
        rintro e w3 ⟨b, rfl, s3, ⟨rfl, hcl, h3⟩ | ⟨rfl, hcl, hno, p3, hp3, hp3n, h3⟩ | ⟨rfl, hcl, p3, j, hp3, hp3n, h3, hct, hpr⟩⟩
        · have hk1 := ws_le D n q2
          have hk2 := hcl.1
          have E : Hid (full D n dep st (.ok (ws D n q2 + 1)) = R) := by
            have := HF.out
            rwa [head_close D n hcl] at this
          have B3 : Hid (Below s w w3) := HB.out.trans (s3.below (Nat.le_refl _))
          have W3 : Hid (RowB w3 r cp st.length (stk st)) := (HW.out.sp s3 hrs).pop
          have H3 : Hid (Spl w3 s g n cap D dep (ws D n q2 + 1) false) := h3
          obtain ⟨c0, c1, c2, c3, f1, f3⟩ := h3.cells
          have b3 : (st.length : Int) ≤ (cp : Int) := by omega
          clear HW HF HB hcl s3 h3
          cases st with
          | nil =>
            have E2 : Hid (R = .ok (ws D n q2 + 1)) := E.out.symm
            go_wp2
            go_ret
            exact ⟨B3.out, true, ws D n q2 + 1, false, rfl, H3.out, Or.inl ⟨rfl, rfl, E2.out⟩⟩
          | cons c2' st2 =>
            have E2 : Hid (full D n dep st2 (head D n (decide (i + 1 = 0)) c2' (ws D n (ws D n q2 + 1)) (dep + st2.length)) = R) := E.out
            have W4 : Hid (RowB w3 r cp (st2.length + 1) (stk st2 ++ [.int .u8 c2'])) := by
              have := W3.out
              rw [stk_cons] at this
              exact this
            have t2 : ((st2.length : Int) + 1 == 0) = false := by rw [beq_eq_false_iff_ne]; omega
            have hl2 : (c2' :: st2).length = st2.length + 1 := rfl
            simp only [hl2] at hdl b3 hle ⊢
            clear E W3 hl2
            go_wp2
            go_roundw
            case rel =>
              have hx := HT.out c2' (by simp)
              have hy : ∀ c ∈ st2, c = 125 ∨ c = 93 := fun c hc => HT.out c (by simp [hc])
              first | exact ⟨c2', st2, r, cp, ws D n q2 + 1, i + 1, rfl, by go_num, W4.out, hr, H3.out, by omega, by omega, by omega, E2.out, by omega, hx, hy, B3.out⟩ | ((repeat apply Exists.intro); exact ⟨⟨c2', st2, r, cp, ws D n q2 + 1, i + 1, rfl, by go_num, W4.out, hr, H3.out, by omega, by omega, by omega, E2.out, by omega, hx, hy, B3.out⟩, rfl⟩)
            case measure => rw [H3.out.at, HS.out.at]; omega
        · have E : Hid (R = .error true) := by
            have := HF.out
            cases hct : cont D n (decide (i = 0)) (ws D n q2) with
            | none => rw [head_none D n hcl hct, full_error] at this; exact this.symm
            | some j => rw [head_more D n hcl hct, loop_none D n (hno j hct), full_error] at this; exact this.symm
          have B3 : Hid (Below s w w3) := HB.out.trans (s3.below (Nat.le_refl _))
          have H3 : Hid (Spl w3 s g n cap D dep p3 true) := h3
          obtain ⟨c0, c1, c2, c3, f1, f3⟩ := h3.cells
          clear HW HF HB hcl hno s3 h3
          go_wp2
          go_ret
          exact ⟨B3.out, false, p3, true, rfl, H3.out, Or.inr ⟨rfl, E.out, by omega, hp3n⟩⟩
        · have E : Hid (full D n dep (c :: st) (val D n (ws D n p3) (dep + (c :: st).length)) = R) := by
            have := HF.out
            rwa [head_more D n hcl hct, full_cons D n dep c st j (ws D n p3) hpr] at this
          have B3 : Hid (Below s w w3) := HB.out.trans (s3.below (Nat.le_refl _))
          have W3 : Hid (RowB w3 r cp (st.length + 1) (stk st ++ [.int .u8 c])) := HW.out.sp s3 hrs
          clear HW HF HB hcl hct hpr s3
          go_wp2_with fail
          refine (opens_any s g n cap D dep p3 false w3 h3 hp3n hn).mono ?_
          rintro e w4 ⟨s4, h4, b, rfl, hb⟩
          have k1 := ws_le D n p3
          have k2 := ws_n D n hp3n
          have B4 : Hid (Below s w w4) := B3.out.trans (s4.below (Nat.le_refl _))
          have W4 : Hid (RowB w4 r cp (st.length + 1) (stk st ++ [.int .u8 c])) := W3.out.sp s4 hrs
          clear B3 W3 s4 h3
          revert E k1 k2 h4 hb
          generalize ws D n p3 = x
          intro E h4 hb k1 k2
          rcases hb with ⟨rfl, hxn, hxo⟩ | ⟨rfl, hxo⟩
          · have HX : Hid (D x = 123 ∨ D x = 91) := hxo
            have H4 : Hid (Spl w4 s g n cap D dep x false) := h4
            clear hxo h4
            go_wp2
            go_roundw
            case rel =>
              have hy : ∀ c' ∈ c :: st, c' = 125 ∨ c' = 93 := fun c' hc' => by
                rcases List.mem_cons.1 hc' with rfl | h
                · exact hc
                · exact HT.out c' h
              have hrow : RowB w4 r cp (c :: st).length (stk (c :: st)) := by rw [stk_cons]; exact W4.out
              first | exact ⟨c :: st, r, cp, x, rfl, hrow, hr, H4.out, by omega, hxn, HX.out, E.out, by simp; omega, hy, B4.out⟩ | ((repeat apply Exists.intro); exact ⟨⟨c :: st, r, cp, x, rfl, hrow, hr, H4.out, by omega, hxn, HX.out, E.out, by simp; omega, hy, B4.out⟩, rfl⟩)
            case measure => rw [H4.out.at, HQ.out]; omega
          · go_wp2_with fail
            refine (skipValue_any s g n cap D hby dep x false w4 h4 k2 hn hxo).mono ?_
            rintro e w5 ⟨s5, ⟨rfl, j5, hj5, h5⟩ | ⟨rfl, hj5, p5, hp5, hp5n, h5⟩⟩
            · have hxn : x < n := by
                rcases Nat.lt_or_ge x n with h | h
                · exact h
                · unfold sv at hj5; rw [if_pos h] at hj5; cases hj5
              have hsc : scal D n x = some j5 := by unfold sv at hj5; rwa [if_neg (by omega)] at hj5
              have hj := scal_n D n hxn hsc
              have E2 : Hid (full D n dep st (head D n (decide (i + 1 = 0)) c (ws D n j5) (dep + st.length)) = R) := by
                have := E.out
                rw [val_eq, if_neg (by omega), if_neg (fun h => h.elim (hxo hxn).1 (hxo hxn).2), hsc] at this
                exact this
              have B5 : Hid (Below s w w5) := B4.out.trans (s5.below (Nat.le_refl _))
              have W5 : Hid (RowB w5 r cp (st.length + 1) (stk st ++ [.int .u8 c])) := W4.out.sp s5 hrs
              have H5 : Hid (Spl w5 s g n cap D dep j5 false) := h5
              clear hj5 hsc E B4 W4 s5 h5 h4 hxo
              go_wp2
              go_roundw
              case rel => first | exact ⟨c, st, r, cp, j5, i + 1, rfl, by go_num, W5.out, hr, H5.out, by omega, by omega, by omega, E2.out, by omega, hc, HT.out, B5.out⟩ | ((repeat apply Exists.intro); exact ⟨⟨c, st, r, cp, j5, i + 1, rfl, by go_num, W5.out, hr, H5.out, by omega, by omega, by omega, E2.out, by omega, hc, HT.out, B5.out⟩, rfl⟩)
              case measure => rw [H5.out.at, HS.out.at]; omega
            · have E2 : Hid (R = .error false) := by
                have := E.out
                rw [val_eq] at this
                by_cases hxn : n ≤ x
                · rw [if_pos hxn, full_error] at this; exact this.symm
                · rw [if_neg hxn, if_neg (fun h => h.elim (hxo (by omega)).1 (hxo (by omega)).2)] at this
                  unfold sv at hj5
                  rw [if_neg hxn] at hj5
                  rw [hj5] at this
                  simp only [full_error] at this
                  exact this.symm
              have B5 : Hid (Below s w w5) := B4.out.trans (s5.below (Nat.le_refl _))
              clear hj5 E B4 W4 s5 h4 hxo
              go_wp2
              go_ret
              exact ⟨B5.out, false, p5, false, rfl, h5, Or.inr ⟨rfl, E2.out, by omega, hp5n⟩⟩
#print axioms skipContainer_any
end Go.Proofs.Qxb6616012a.G
