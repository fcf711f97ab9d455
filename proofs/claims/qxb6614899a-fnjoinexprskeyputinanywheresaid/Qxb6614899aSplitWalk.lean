/-
  THE WALK OF FnJoinExprsSplitAtAnyKey (4).
-/
import Derived.Test.Qxb6614899aJBytes
import Derived.Test.Qxb6614899aJTooBig
import Derived.WideShapes
namespace Go.Proofs.Qxb6614899a
open Go.RowKit

/-- The joined expressions of zzJoin's Join: one contract for 'ZZJoinExprs(zzJoin(..))' 's second call. -/
theorem RowOf.nil (w : World) : RowOf w none (condCells []) := ⟨0, 0, fun h => absurd rfl h, fun j u h => by simp [condCells] at h⟩

theorem join_len (kind : ByteArray) (ks : List KeyC) (cond : List (ByteArray × ByteArray)) (aK aC : Option Addr) (nK nC cK cC : Nat) (w : World) (eK : ks.length = nK) (eC : cond.length = nC)
    (hk : nK ≤ 1048577) (hc : nC ≤ 1048576) (rK : RowOf w aK (keysCells ks)) (rC : RowOf w aC (condCells cond)) :
    Calls Try.prog 9 #[.string kind, .slice aK nK cK, .slice aC nC cC] w fun e w' => e = .returned (.pointer (some ⟨w.heap.size, 0, none⟩)) ∧
      ∃ aoK capK aoC capC ts cs, JoinAt w' (w.heap.size + 1) w.heap.size kind aoK aoC nK capK nC capC ts cs (keysCols ks) cond ∧ Below w.heap.size w w' := by
  subst eK eC
  exact join_any kind ks cond aK aC cK cC w hk hc rK rC

theorem keysCells_take (ks : List KeyC) (n : Nat) : keysCells (ks.take n) = (keysCells ks).take (n * 5) := by
  induction ks generalizing n with
  | nil => simp [keysCells]
  | cons k ks ih =>
    cases n with
    | zero => simp [keysCells]
    | succ n =>
      have := ih n
      simp only [keysCells, List.take_succ_cons, List.flatMap_cons] at this ⊢
      rw [this, show (n + 1) * 5 = (KeyC.cells k).length + n * 5 by simp [KeyC.cells]; omega, List.take_length_add_append]

theorem keysCells_drop (ks : List KeyC) (n : Nat) : keysCells (ks.drop n) = (keysCells ks).drop (n * 5) := by
  induction ks generalizing n with
  | nil => simp [keysCells]
  | cons k ks ih =>
    cases n with
    | zero => simp [keysCells]
    | succ n =>
      have := ih n
      simp only [keysCells, List.drop_succ_cons, List.flatMap_cons] at this ⊢
      rw [this, show (n + 1) * 5 = (KeyC.cells k).length + n * 5 by simp [KeyC.cells]; omega, List.drop_length_add_append]

theorem RowOf.take {w : World} {ao : Option Addr} {ks : List KeyC} (h : RowOf w ao (keysCells ks)) (n : Nat) : RowOf w ao (keysCells (ks.take n)) := by
  obtain ⟨b, off, h1, h2⟩ := h
  rw [keysCells_take]
  refine ⟨b, off, fun hne => h1 (fun e => hne (by rw [e]; simp)), fun j u hu => h2 j u ?_⟩
  rw [List.getElem?_take] at hu
  split at hu
  · exact hu
  · cases hu

theorem RowOf.drop {w : World} {ao : Option Addr} {ks : List KeyC} (h : RowOf w ao (keysCells ks)) (n : Nat) : RowOf w (ao.map fun x => x.add (n * 5)) (keysCells (ks.drop n)) := by
  obtain ⟨b, off, h1, h2⟩ := h
  rw [keysCells_drop]
  refine ⟨b, off + n * 5, fun hne => ?_, fun j u hu => ?_⟩
  · rw [h1 (fun e => hne (by rw [e]; simp))]
    simp [WideShapes.add_plain]
  · rw [List.getElem?_drop] at hu
    have := h2 _ u hu
    rwa [← Nat.add_assoc] at this

theorem RowOf.gone {w : World} {ao ao' : Option Addr} {ks : List KeyC} {n : Nat} (_ : RowOf w ao (keysCells ks)) (hn : ks.length ≤ n) : RowOf w ao' (keysCells (ks.drop n)) := by
  rw [List.drop_eq_nil_of_le hn]
  exact ⟨0, 0, fun h => absurd rfl h, fun j u h => by simp [keysCells] at h⟩

theorem keysCols_len (ks : List KeyC) : (keysCols ks).length = ks.length * 2 := flat_len KeyC.cols 2 (fun _ => rfl) ks

theorem cols_at (ks : List KeyC) (rest : List (ByteArray × ByteArray)) (p : Nat) (key : KeyC) (h : ks[p / 2]? = some key) : (keysCols ks ++ rest)[p]? = key.cols[p % 2]? := by
  have hlt := (List.getElem?_eq_some_iff.1 h).1
  rw [List.getElem?_append_left (by rw [keysCols_len]; omega)]
  have := flat_get KeyC.cols 2 (fun _ => rfl) ks (p / 2) (p % 2) key (by omega) h
  rwa [show p / 2 * 2 + p % 2 = p by omega] at this

theorem draws_below {B : Nat} {a w : World} (h : Below B a w) (n : Nat) : Below B a (w.drewN n) := h.trans ⟨rfl, rfl, rfl, Nat.le_refl _, fun _ _ => rfl⟩

theorem tail_at (ks : List KeyC) (cond : List (ByteArray × ByteArray)) (n p : Nat) (hn : n ≤ ks.length) : (keysCols (ks.drop n) ++ cond)[p]? = (keysCols ks ++ cond)[2 * n + p]? := by
  have e : keysCols ks = keysCols (ks.take n) ++ keysCols (ks.drop n) := by rw [keysCols, keysCols, keysCols, ← List.flatMap_append, List.take_append_drop]
  have h := List.getElem?_append_right (l₁ := keysCols (ks.take n)) (l₂ := keysCols (ks.drop n) ++ cond) (i := 2 * n + p) (by rw [keysCols_len, List.length_take]; omega)
  rw [e, List.append_assoc, h, keysCols_len, List.length_take, show 2 * n + p - min n ks.length * 2 = p by omega]

/-- ONE EXPRESSION, in a later world. -/
theorem ExprsAt.get {w wr : World} {ao : Option Addr} {cols : List (ByteArray × ByteArray)} (h : ExprsAt w ao cols) (hb : Below w.heap.size w wr) {i : Nat} {c : ByteArray × ByteArray} (hc : cols[i]? = some c) :
    ∃ g b, ao = some ⟨g, 0, none⟩ ∧ wr.cell? ⟨g, i, none⟩ = some (.iface 65 (.pointer (some ⟨b, 0, none⟩))) ∧ (∀ A, (wr.alloc A).cell? ⟨g, i, none⟩ = some (.iface 65 (.pointer (some ⟨b, 0, none⟩)))) ∧
      (∀ n, (wr.drewN n).heap[b]? = some (.cells #[.string c.1, .string c.2] 67 (0, 0))) ∧ ∀ A n, ((wr.alloc A).drewN n).heap[b]? = some (.cells #[.string c.1, .string c.2] 67 (0, 0)) := by
  obtain ⟨g, h1, h2⟩ := h.below hb
  obtain ⟨b, h3, h4⟩ := h2 i c hc
  have hi := (List.getElem?_eq_some_iff.1 hc).1
  refine ⟨g, b, h1 (by omega), h3, fun A => cell_later ((Below.refl _ _).alloc (Nat.le_refl _) _) h3, fun _ => h4, fun A n => ?_⟩
  show (wr.alloc A).heap[b]? = _
  rw [Below.heap_alloc _ _ _ (lt_of_block h4)]
  exact h4

set_option maxHeartbeats 1600000 in
set_option maxRecDepth 100000 in
theorem split_walk (kind : ByteArray) (ks : List KeyC) (cond : List (ByteArray × ByteArray)) (aK aC : Option Addr) (cK cC : Nat) (m : Int) (w : World) (hcap : ks.length ≤ cK) (rK : RowOf w aK (keysCells ks)) (rC : RowOf w aC (condCells cond)) :
    Calls Try.prog 4 #[.string kind, .slice aK ks.length cK, .slice aC cond.length cC, .int .i64 m] w fun e w' => e = .returned (.bool true) ∧ Below w.heap.size w w' := by
  have RK : Hid (RowOf w aK (keysCells ks)) := rK
  have RC : Hid (RowOf w aC (condCells cond)) := rC
  clear rK rC
  go_enter Try.func4, Try.ntmps4
  go_wp2_with fail
  refine (bytes11_any kind ks cond aK aC cK cC m w RK.out RC.out).mono ?_
  rintro e w1 ⟨b, rfl, hB1, hb⟩
  cases b
  · go_wp2
    go_ret
    exact ⟨rfl, hB1⟩
  obtain ⟨hk, hc⟩ := hb rfl
  clear hb
  go_wp2_with fail
  refine (tooBig_any kind ks cond aK aC cK cC _ _ _ _ _ w1 hk hc (RK.out.below hB1) (RC.out.below hB1)).mono ?_
  rintro e w2 ⟨b, rfl, hB2'⟩
  have hB2 : Below w.heap.size w w2 := hB1.trans (hB2'.mono hB1.size)
  clear hB1 hB2'
  cases b
  rotate_left
  · go_wp2
    go_ret
    exact ⟨rfl, hB2⟩
  by_cases hm2 : m < 0
  · go_wp2
    go_ret
    exact ⟨rfl, hB2⟩
  by_cases hm3 : (ks.length : Int) < m
  · go_wp2
    go_ret
    exact ⟨rfl, hB2⟩
  obtain ⟨n, rfl⟩ := Int.eq_ofNat_of_zero_le (show 0 ≤ m by omega)
  have hnk : n ≤ ks.length := by omega
  have dn0 : decide ((n : Int) < 0) = false := by simp
  have dn1 : decide ((ks.length : Int) < (n : Int)) = false := by simp; omega
  have dn2 : ((2 * (ks.length : Int) + (cond.length : Int)) != 2 * (n : Int) + (2 * ((ks.length : Int) - (n : Int)) + (cond.length : Int))) = false := by rw [bne_eq_false_iff_eq]; omega
  clear hm2 hm3
  go_wp2_with fail
  refine (join_any kind ks cond aK aC cK cC w2 (by omega) hc (RK.out.below hB2) (RC.out.below hB2)).mono ?_
  rintro e w3 ⟨rfl, aoK3, capK3, aoC3, capC3, ts3, cs3, hJ3, hB3⟩
  have hz3 := hB3.size
  go_wp2_with fail
  refine (joinExprs_any _ _ _ _ _ _ _ _ _ _ _ _ _ _ hJ3 (by omega) hc).mono ?_
  rintro e w4 ⟨ao4, cap4, rfl, X4, hB4⟩
  have hB : Below w.heap.size w w4 := hB2.trans ((hB3.trans (hB4.mono hz3)).mono hB2.size)
  clear hJ3 hB3 hB4 hz3 hB2
  go_wp2_with fail
  refine (join_len kind (ks.take n) [] aK none n 0 cK 0 w4 (by simp; omega) rfl (by omega) (by omega) ((RK.out.below hB).take n) (RowOf.nil _)).mono ?_
  rintro e w5 ⟨rfl, aoK5, capK5, aoC5, capC5, ts5, cs5, hJ5, hB5⟩
  have hz5 := hB5.size
  go_wp2_with fail
  refine (joinExprs_any _ _ _ _ _ _ _ _ _ _ _ _ _ _ hJ5 (by omega) (by omega)).mono ?_
  rintro e w6 ⟨ao6, cap6, rfl, X6, hB6⟩
  have hB46 : Below w4.heap.size w4 w6 := hB5.trans (hB6.mono hz5)
  have Y4 := X4.below hB46
  have hB' : Below w.heap.size w w6 := hB.trans (hB46.mono hB.size)
  clear hJ5 hB5 hB6 hz5 hB X4 hB46
  obtain ⟨a', ha'⟩ : ∃ a', (if cK = n then aK else Option.map (fun x => x.add (n * 5)) aK) = a' := ⟨_, rfl⟩
  have HA : Hid (RowOf w6 a' (keysCells (ks.drop n))) := by
    by_cases hcn : cK = n
    · exact (RK.out.below hB').gone (by omega)
    · have e : a' = aK.map fun x => x.add (n * 5) := by rw [← ha']; simp [hcn]
      rw [e]
      exact (RK.out.below hB').drop n
  go_wp2_with fail
  clear ha'
  refine (join_len kind (ks.drop n) cond _ aC (ks.length - n) cond.length _ cC w6 (by simp) rfl (by omega) hc (by exact HA.out) (RC.out.below hB')).mono ?_
  rintro e w7 ⟨rfl, aoK7, capK7, aoC7, capC7, ts7, cs7, hJ7, hB7⟩
  have hz7 := hB7.size
  go_wp2_with fail
  refine (joinExprs_any _ _ _ _ _ _ _ _ _ _ _ _ _ _ hJ7 (by omega) hc).mono ?_
  rintro e w8 ⟨ao8, cap8, rfl, X8, hB8⟩
  have hB68 : Below w6.heap.size w6 w8 := hB7.trans (hB8.mono hz7)
  have Z4 := Y4.below hB68
  have Z6 := X6.below hB68
  have hB9 : Below w.heap.size w w8 := hB'.trans (hB68.mono hB'.size)
  clear hJ7 hB7 hB8 hz7 hB' Y4 X6 hB68
  go_wp2_with fail
  have HB9 : Hid (Below w.heap.size w w8) := hB9
  have H4 : Hid (ExprsAt w8 ao4 (keysCols ks ++ cond)) := Z4
  have H6 : Hid (ExprsAt w8 ao6 (keysCols (ks.take n) ++ [])) := Z6
  have H8 : Hid (ExprsAt w8 ao8 (keysCols (ks.drop n) ++ cond)) := X8
  clear hB9 Z4 Z6 X8
  go_loopw [12] (fun i wr => ∃ p : Nat, p ≤ 2 * n ∧ i = .int .i64 p ∧ Below w8.heap.size w8 wr) (fun i _ => 2 * n - (intOf i).toNat)
  case atStart => exact ⟨0, by omega, rfl, Below.refl _ _⟩
  case round =>
    obtain ⟨p, hp, rfl, hB⟩ := hrel
    by_cases hlt : p < 2 * n
    · obtain ⟨key, hkey⟩ : ∃ key, ks[p / 2]? = some key := ⟨_, List.getElem?_eq_getElem (by omega)⟩
      obtain ⟨b, off, hao, hcell⟩ := RK.out.below (HB9.out.trans (hB.mono HB9.out.size))
      have hne : keysCells ks ≠ [] := fun e => by have := flat_len KeyC.cells 5 (fun _ => rfl) ks; rw [show ks.flatMap KeyC.cells = [] from e] at this; simp at this; omega
      have hao' := hao hne
      subst hao'
      have q0 : wr.cell? ⟨b, off + p / 2 * 5, none⟩ = some (.string key.lt) := key_cell hcell hkey 0 _ (by omega) rfl
      have q1 : wr.cell? ⟨b, off + p / 2 * 5 + 1, none⟩ = some (.string key.lc) := key_cell hcell hkey 1 _ (by omega) rfl
      have q2 : wr.cell? ⟨b, off + p / 2 * 5 + 2, none⟩ = some (.string key.rt) := key_cell hcell hkey 2 _ (by omega) rfl
      have q3 : wr.cell? ⟨b, off + p / 2 * 5 + 3, none⟩ = some (.string key.rc) := key_cell hcell hkey 3 _ (by omega) rfl
      have q4 : wr.cell? ⟨b, off + p / 2 * 5 + 4, none⟩ = some (.bool key.ns) := key_cell hcell hkey 4 _ (by omega) rfl
      have b1 : (0 : Int) ≤ (p : Int) / 2 := by omega
      have b2 : (p : Int) / 2 < (ks.length : Int) := by omega
      have hkt : (ks.take n)[p / 2]? = some key := by rw [List.getElem?_take, if_pos (by omega)]; exact hkey
      have z6 := cols_at (ks.take n) [] p key hkt
      have z4 := cols_at ks cond p key hkey
      have b3 : (p : Int) < ((2 * n : Nat) : Int) := by omega
      have b4 : (p : Int) < ((2 * ks.length + cond.length : Nat) : Int) := by omega
      clear hkt hkey hao hcell hne
      by_cases hr : p % 2 = 1
      · have ht : ((p : Int) % 2 == 1) = true := by rw [beq_iff_eq]; omega
        rw [hr] at z6 z4
        obtain ⟨g6, x6, rfl, c6, c6', _, h6⟩ := H6.out.get hB z6
        obtain ⟨g4, x4, rfl, c4, c4', _, h4⟩ := H4.out.get hB z4
        have G6 : Hid _ := h6
        have G4 : Hid _ := h4
        clear h6 h4 z6 z4 hr
        go_wp2_with fail
        refine (columnOf_any x6 key.rt key.rc _ (by first | exact G6.out _ 0 | exact G6.out _ _)).mono ?_
        rintro e w9 ⟨rfl, k9, rfl⟩
        go_wp2_with fail
        refine (columnOf_any x4 key.rt key.rc _ (by exact G4.out _ _)).mono ?_
        rintro e w9 ⟨rfl, k9', rfl⟩
        go_wp2
        go_roundw
        case rel => first | exact ⟨p + 1, by omega, by go_num, draws_below (hB.alloc hB.size _) _⟩ | ((repeat apply Exists.intro); exact ⟨⟨p + 1, by omega, by go_num, draws_below (hB.alloc hB.size _) _⟩, rfl⟩)
        case measure => simp [intOf]; omega
      · have hr0 : p % 2 = 0 := by omega
        have ht : ((p : Int) % 2 == 1) = false := by rw [beq_eq_false_iff_ne]; omega
        rw [hr0] at z6 z4
        obtain ⟨g6, x6, rfl, c6, c6', _, h6⟩ := H6.out.get hB z6
        obtain ⟨g4, x4, rfl, c4, c4', _, h4⟩ := H4.out.get hB z4
        have G6 : Hid _ := h6
        have G4 : Hid _ := h4
        clear h6 h4 z6 z4 hr hr0
        go_wp2_with fail
        refine (columnOf_any x6 key.lt key.lc _ (by first | exact G6.out _ 0 | exact G6.out _ _)).mono ?_
        rintro e w9 ⟨rfl, k9, rfl⟩
        go_wp2_with fail
        refine (columnOf_any x4 key.lt key.lc _ (by exact G4.out _ _)).mono ?_
        rintro e w9 ⟨rfl, k9', rfl⟩
        go_wp2
        go_roundw
        case rel => first | exact ⟨p + 1, by omega, by go_num, draws_below (hB.alloc hB.size _) _⟩ | ((repeat apply Exists.intro); exact ⟨⟨p + 1, by omega, by go_num, draws_below (hB.alloc hB.size _) _⟩, rfl⟩)
        case measure => simp [intOf]; omega
    · clear RK H6
      go_wp2
      go_loopw [22] (fun i wr => ∃ p : Nat, p ≤ 2 * (ks.length - n) + cond.length ∧ i = .int .i64 p ∧ Below w8.heap.size w8 wr) (fun i _ => 2 * (ks.length - n) + cond.length - (intOf i).toNat)
      case atStart => exact ⟨0, by omega, rfl, hB⟩
      case round =>
        clear hB hlt hp
        obtain ⟨p, hp, rfl, hB⟩ := hrel
        by_cases hlt : p < 2 * (ks.length - n) + cond.length
        · have hl8 : (keysCols (ks.drop n) ++ cond).length = 2 * (ks.length - n) + cond.length := by rw [List.length_append, keysCols_len, List.length_drop]; omega
          obtain ⟨c, hc8⟩ : ∃ c, (keysCols (ks.drop n) ++ cond)[p]? = some c := ⟨_, List.getElem?_eq_getElem (by omega)⟩
          have hc4 : (keysCols ks ++ cond)[2 * n + p]? = some c := by rw [← tail_at ks cond n p (by omega)]; exact hc8
          obtain ⟨g8, x8, rfl, c8, _, h8, _⟩ := H8.out.get hB hc8
          obtain ⟨g4, x4, rfl, c4, _, h4, _⟩ := H4.out.get hB hc4
          have b3 : (p : Int) < ((2 * (ks.length - n) + cond.length : Nat) : Int) := by omega
          have b4 : 2 * (n : Int) + (p : Int) < ((2 * ks.length + cond.length : Nat) : Int) := by omega
          have G8 : Hid _ := h8
          have G4 : Hid _ := h4
          clear h8 h4 hl8 hc8 hc4
          go_wp2_with fail
          refine (columnOf_any x8 c.1 c.2 _ (by first | exact G8.out 0 | exact G8.out _)).mono ?_
          rintro e w9 ⟨rfl, k9, rfl⟩
          go_wp2_with fail
          refine (columnOf_any x4 c.1 c.2 _ (by exact G4.out _)).mono ?_
          rintro e w9 ⟨rfl, k9', rfl⟩
          go_wp2
          go_roundw
          case rel => first | exact ⟨p + 1, by omega, by go_num, draws_below hB _⟩ | ((repeat apply Exists.intro); exact ⟨⟨p + 1, by omega, by go_num, draws_below hB _⟩, rfl⟩)
          case measure => simp [intOf]; omega
        · clear H4
          go_wp2
          go_loopw [29] (fun i wr => ∃ p : Nat, p ≤ cond.length ∧ i = .int .i64 p ∧ Below w8.heap.size w8 wr) (fun i _ => cond.length - (intOf i).toNat)
          case atStart => exact ⟨0, by omega, rfl, hB⟩
          case round =>
            clear hB hlt hp
            obtain ⟨p, hp, rfl, hB⟩ := hrel
            by_cases hlt : p < cond.length
            · obtain ⟨c, hc0⟩ : ∃ c, cond[p]? = some c := ⟨_, List.getElem?_eq_getElem hlt⟩
              have hc8 : (keysCols (ks.drop n) ++ cond)[2 * (ks.length - n) + p]? = some c := by rw [List.getElem?_append_right (by rw [keysCols_len, List.length_drop]; omega), keysCols_len, List.length_drop, show 2 * (ks.length - n) + p - (ks.length - n) * 2 = p by omega]; exact hc0
              obtain ⟨g8, x8, rfl, c8, _, h8, _⟩ := H8.out.get hB hc8
              obtain ⟨b, off, hao, hcell⟩ := RC.out.below (HB9.out.trans (hB.mono HB9.out.size))
              have hne : condCells cond ≠ [] := fun e => by have := flat_len colCells 2 (fun _ => rfl) cond; rw [show cond.flatMap colCells = [] from e] at this; simp at this; omega
              have hao' := hao hne
              subst hao'
              have q0 : wr.cell? ⟨b, off + p * 2, none⟩ = some (.string c.1) := cond_cell hcell hc0 0 _ (by omega) rfl
              have q1 : wr.cell? ⟨b, off + p * 2 + 1, none⟩ = some (.string c.2) := cond_cell hcell hc0 1 _ (by omega) rfl
              have b1 : (p : Int) < (cond.length : Int) := by omega
              have b3 : 2 * ((ks.length : Int) - (n : Int)) + (p : Int) < ((2 * (ks.length - n) + cond.length : Nat) : Int) := by omega
              have G8 : Hid _ := h8
              clear h8 hc8 hc0 hao hcell hne
              go_wp2_with fail
              refine (columnOf_any x8 c.1 c.2 _ (by first | exact G8.out 0 | exact G8.out _)).mono ?_
              rintro e w9 ⟨rfl, k9, rfl⟩
              go_wp2
              go_roundw
              case rel => first | exact ⟨p + 1, by omega, by go_num, draws_below hB _⟩ | ((repeat apply Exists.intro); exact ⟨⟨p + 1, by omega, by go_num, draws_below hB _⟩, rfl⟩)
              case measure => simp [intOf]; omega
            · go_wp2
              go_ret
              exact ⟨rfl, HB9.out.trans (hB.mono HB9.out.size)⟩
#print axioms split_walk
end Go.Proofs.Qxb6614899a
