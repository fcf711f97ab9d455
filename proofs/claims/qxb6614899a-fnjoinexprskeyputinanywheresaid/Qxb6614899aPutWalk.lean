/-
  THE WALK OF FnJoinExprsKeyPutInAnywhere (3).
-/
import Derived.Test.Qxb6614899aJBytes6
import Derived.Test.Qxb6614899aSplitWalk
namespace Go.Proofs.Qxb6614899a
open Go.RowKit

theorem Try.info25 : (Try.prog.info? 25).map (fun i => (i.zero, i.size, i.bytes)) = some (some (.agg #[.string ⟨#[]⟩, .string ⟨#[]⟩, .string ⟨#[]⟩, .string ⟨#[]⟩, .bool false]), 5, 72) := by kernel_rfl

theorem keysCells_len (ks : List KeyC) : (keysCells ks).length = ks.length * 5 := flat_len KeyC.cells 5 (fun _ => rfl) ks
theorem keysCells_one (ks : List KeyC) : ∀ u ∈ keysCells ks, u.oneCell' = true := by
  intro u hu
  obtain ⟨k, _, hk⟩ := List.mem_flatMap.1 hu
  simp [KeyC.cells] at hk
  rcases hk with rfl | rfl | rfl | rfl | rfl <;> rfl
theorem keysCells_append (l r : List KeyC) : keysCells (l ++ r) = keysCells l ++ keysCells r := by simp [keysCells]
theorem keysCols_append (l r : List KeyC) : keysCols (l ++ r) = keysCols l ++ keysCols r := by simp [keysCols]

/-- The cells of a row, as an append reads them. -/
theorem RowOf.news {w : World} {ao : Option Addr} {cs : List Value} (h : RowOf w ao cs) : ∀ ad, ao = some ad → ∀ j u, cs[j]? = some u → w.cell? (ad.add j) = some u := by
  obtain ⟨b, off, h1, h2⟩ := h
  intro ad had j u hu
  have hne : cs ≠ [] := fun e => by rw [e] at hu; simp at hu
  have e := h1 hne
  rw [had] at e
  simp at e
  subst e
  rw [WideShapes.add_plain]
  exact h2 j u hu

theorem grown_below {w w' : World} (h : w.grownBy w' none) : Below w.heap.size w w' := (Below.refl _ _).grown h (Nat.le_refl _) (fun k hk => by cases hk)

/-- The key put in at n. -/
def putIn (ks : List KeyC) (n : Nat) (key : KeyC) : List KeyC := ks.take n ++ [key] ++ ks.drop n
theorem putIn_len (ks : List KeyC) (n : Nat) (key : KeyC) (h : n ≤ ks.length) : (putIn ks n key).length = ks.length + 1 := by simp [putIn]; omega
theorem putIn_cells (ks : List KeyC) (n : Nat) (key : KeyC) : keysCells (putIn ks n key) = keysCells (ks.take n) ++ key.cells ++ keysCells (ks.drop n) := by
  rw [putIn, keysCells_append, keysCells_append]
  simp [keysCells]
theorem putIn_cols (ks : List KeyC) (n : Nat) (key : KeyC) (cond : List (ByteArray × ByteArray)) : keysCols (putIn ks n key) ++ cond = keysCols (ks.take n) ++ (key.cols ++ (keysCols (ks.drop n) ++ cond)) := by
  rw [putIn, keysCols_append, keysCols_append]
  simp [keysCols]
theorem split_cols (ks : List KeyC) (n : Nat) (cond : List (ByteArray × ByteArray)) : keysCols ks ++ cond = keysCols (ks.take n) ++ (keysCols (ks.drop n) ++ cond) := by
  rw [← List.append_assoc, ← keysCols_append, List.take_append_drop]

theorem put_before (ks : List KeyC) (n p : Nat) (key : KeyC) (cond : List (ByteArray × ByteArray)) (hn : n ≤ ks.length) (hp : p < 2 * n) : (keysCols (putIn ks n key) ++ cond)[p]? = (keysCols ks ++ cond)[p]? := by
  have hl : (keysCols (ks.take n)).length = n * 2 := by rw [keysCols_len, List.length_take]; omega
  rw [putIn_cols, split_cols ks n cond, List.getElem?_append_left (by omega), List.getElem?_append_left (by omega)]
theorem put_left (ks : List KeyC) (n : Nat) (key : KeyC) (cond : List (ByteArray × ByteArray)) (hn : n ≤ ks.length) : (keysCols (putIn ks n key) ++ cond)[2 * n]? = some (key.lt, key.lc) := by
  have hl : (keysCols (ks.take n)).length = n * 2 := by rw [keysCols_len, List.length_take]; omega
  rw [putIn_cols, List.getElem?_append_right (by omega), hl, show 2 * n - n * 2 = 0 by omega]
  rfl
theorem put_right (ks : List KeyC) (n : Nat) (key : KeyC) (cond : List (ByteArray × ByteArray)) (hn : n ≤ ks.length) : (keysCols (putIn ks n key) ++ cond)[2 * n + 1]? = some (key.rt, key.rc) := by
  have hl : (keysCols (ks.take n)).length = n * 2 := by rw [keysCols_len, List.length_take]; omega
  rw [putIn_cols, List.getElem?_append_right (by omega), hl, show 2 * n + 1 - n * 2 = 1 by omega]
  rfl
theorem put_behind (ks : List KeyC) (n p : Nat) (key : KeyC) (cond : List (ByteArray × ByteArray)) (hn : n ≤ ks.length) (hp : 2 * n ≤ p) : (keysCols (putIn ks n key) ++ cond)[p + 2]? = (keysCols ks ++ cond)[p]? := by
  have hl : (keysCols (ks.take n)).length = n * 2 := by rw [keysCols_len, List.length_take]; omega
  have hc : key.cols.length = 2 := rfl
  have h1 := List.getElem?_append_right (l₁ := keysCols (ks.take n)) (l₂ := key.cols ++ (keysCols (ks.drop n) ++ cond)) (i := p + 2) (by omega)
  have h2 := List.getElem?_append_right (l₁ := key.cols) (l₂ := keysCols (ks.drop n) ++ cond) (i := p + 2 - n * 2) (by omega)
  have h3 := List.getElem?_append_right (l₁ := keysCols (ks.take n)) (l₂ := keysCols (ks.drop n) ++ cond) (i := p) (by omega)
  rw [putIn_cols, split_cols ks n cond, h1, h3, hl, h2, hc, show p + 2 - n * 2 - 2 = p - n * 2 by omega]

theorem boxCells {W : World} {b : Nat} {a0 a1 a2 a3 a4 : Value} (h : W.heap[b]? = some (.cells #[a0, a1, a2, a3, a4] 25 (0, 0))) :
    W.cell? ⟨b, 0, none⟩ = some a0 ∧ W.cell? ⟨b, 1, none⟩ = some a1 ∧ W.cell? ⟨b, 2, none⟩ = some a2 ∧ W.cell? ⟨b, 3, none⟩ = some a3 ∧ W.cell? ⟨b, 4, none⟩ = some a4 := by
  refine ⟨?_, ?_, ?_, ?_, ?_⟩ <;> simp [World.cell?, h]

set_option maxHeartbeats 1600000 in
set_option maxRecDepth 100000 in
theorem put_walk (kind : ByteArray) (ks : List KeyC) (cond : List (ByteArray × ByteArray)) (aK aC : Option Addr) (cK cC : Nat) (m : Int) (key : KeyC) (w : World) (hcap : ks.length ≤ cK) (hn : aK = none → cK = 0) (rK : RowOf w aK (keysCells ks)) (rC : RowOf w aC (condCells cond)) :
    Calls Try.prog 3 #[.string kind, .slice aK ks.length cK, .slice aC cond.length cC, .int .i64 m, .agg #[.string key.lt, .string key.lc, .string key.rt, .string key.rc, .bool key.ns]] w fun e w' => e = .returned (.bool true) ∧ Below w.heap.size w w' := by
  obtain ⟨i25, hi25, hz25, hs25, hb25⟩ := info_parts Try.info25
  have hB0 : Below w.heap.size w (w.alloc (.cells #[.string key.lt, .string key.lc, .string key.rt, .string key.rc, .bool key.ns] 25)) := (Below.refl _ _).alloc (Nat.le_refl _) _
  have hK0 := heap_alloc_new w (.cells #[.string key.lt, .string key.lc, .string key.rt, .string key.rc, .bool key.ns] 25)
  have rK1 := rK.below hB0
  have rC1 := rC.below hB0
  go_enter Try.func3, Try.ntmps3
  go_wp2_with fail
  generalize w.alloc (.cells #[.string key.lt, .string key.lc, .string key.rt, .string key.rc, .bool key.ns] 25) = w1 at *
  have hz0 : w.heap.size < w1.heap.size := lt_of_block hK0
  have RK : Hid (RowOf w1 aK (keysCells ks)) := rK1
  have RC : Hid (RowOf w1 aC (condCells cond)) := rC1
  have HK0 : Hid _ := hK0
  have HB0 : Hid (Below w.heap.size w w1) := hB0
  clear rK rC rK1 rC1 hK0 hB0
  refine (bytes6_any kind ks cond aK aC cK cC m _ _ _ _ _ w1 RK.out RC.out).mono ?_
  rintro e w2 ⟨b, rfl, hB1, hb⟩
  have hK2 := (hB1.block _ hz0).trans HK0.out
  obtain ⟨x0, x1, x2, x3, x4⟩ := boxCells hK2
  have hz2 := hB1.size
  cases b
  · go_wp2
    go_ret
    exact ⟨rfl, HB0.out.trans (hB1.mono (by omega))⟩
  obtain ⟨hk, hc⟩ := hb rfl
  clear hb
  go_wp2_with fail
  refine (tooBig_any kind ks cond aK aC cK cC _ _ _ _ _ w2 hk hc (RK.out.below hB1) (RC.out.below hB1)).mono ?_
  rintro e w3 ⟨b, rfl, hB2'⟩
  have hB3 : Below w1.heap.size w1 w3 := hB1.trans (hB2'.mono hB1.size)
  clear hB1 hB2' hK2 x0 x1 x2 x3 x4 hz2
  cases b
  rotate_left
  · go_wp2
    go_ret
    exact ⟨rfl, HB0.out.trans (hB3.mono (by omega))⟩
  by_cases hm2 : m < 0
  · go_wp2
    go_ret
    exact ⟨rfl, HB0.out.trans (hB3.mono (by omega))⟩
  by_cases hm3 : (ks.length : Int) < m
  · go_wp2
    go_ret
    exact ⟨rfl, HB0.out.trans (hB3.mono (by omega))⟩
  obtain ⟨n, rfl⟩ := Int.eq_ofNat_of_zero_le (show 0 ≤ m by omega)
  have hnk : n ≤ ks.length := by omega
  have dn0 : decide ((n : Int) < 0) = false := by simp
  have dn1 : decide ((ks.length : Int) < (n : Int)) = false := by simp; omega
  clear hm2 hm3
  have dn2 : ((2 * ((n : Int) + 1 + ((ks.length - n : Nat) : Int)) + (cond.length : Int)) != 2 * (ks.length : Int) + (cond.length : Int) + 2) = false := by rw [bne_eq_false_iff_eq]; omega
  have hz3 := hB3.size
  have rT : RowOf w3 aK (keysCells (ks.take n)) := (RK.out.below hB3).take n
  have hlT : (keysCells (ks.take n)).length = n * 5 := by rw [keysCells_len, List.length_take]; omega
  have hlD : (keysCells (ks.drop n)).length = (ks.length - n) * 5 := by rw [keysCells_len, List.length_drop]
  obtain ⟨a', ha'⟩ : ∃ a', (if cK = n then aK else Option.map (fun x => x.add (n * 5)) aK) = a' := ⟨_, rfl⟩
  have hn' : a' = none → ks.length - n = 0 ∧ cK - n = 0 := by
    intro h
    have : aK = none := by
      rw [h] at ha'
      split at ha'
      · exact ha'
      · simpa using ha'
    have := hn this
    omega
  have rD : RowOf w3 a' (keysCells (ks.drop n)) := by
    by_cases hcn : cK = n
    · exact (RK.out.below hB3).gone (by omega)
    · have e : a' = aK.map fun x => x.add (n * 5) := by rw [← ha']; simp [hcn]
      rw [e]
      exact (RK.out.below hB3).drop n
  have RT : Hid (RowOf w3 aK (keysCells (ks.take n))) := rT
  have RD : Hid (RowOf w3 a' (keysCells (ks.drop n))) := rD
  have HN' : Hid (a' = none → ks.length - n = 0 ∧ cK - n = 0) := hn'
  have HN : Hid (aK = none → cK = 0) := hn
  have hK3 := (hB3.block _ hz0).trans HK0.out
  clear rT rD hn' hn
  go_wp2_with (first
    | (at_make; refine wpList_make_own _ rfl _ _ 22 rfl w3.heap.size 25 i25 _ 5 Try.underlying22 hi25 hz25 hs25 .i64 .i64 _ (ks.length + 1) rfl rfl (by omega) (by rw [hb25]; omega) (by unfold maxLen; omega) (Nat.le_refl _) ?_; intro w4 own4 gr4)
    | (at_builtin; refine wpList_append_fits_any _ rfl (.tmp 63) (.tmp 66) 22 rfl w3.heap.size 25 i25 5 Try.underlying22 hi25 hs25 w3.heap.size 0 (ks.length + 1) [] rfl own4 aK n cK (keysCells (ks.take n)) rfl hlT (by intro h; have := HN.out h; omega) (RowOf.news (RT.out.below (grown_below gr4))) (keysCells_one _) (by omega) ?_; intro w5 own5 gr5; simp only [Nat.zero_add, List.nil_append] at own5; have hB5 : Below w3.heap.size w3 w5 := (grown_below gr4).grown gr5 (grown_below gr4).size (fun k hk => by cases hk; exact Nat.le_refl _); obtain ⟨x0, x1, x2, x3, x4⟩ := boxCells ((hB5.block _ (by omega)).trans hK3))
    | (at_builtin; refine wpList_append_fits_any _ rfl (.tmp 68) (.tmp 70) 22 rfl w3.heap.size 25 i25 5 Try.underlying22 hi25 hs25 w3.heap.size n (ks.length + 1) (keysCells (ks.take n)) rfl (own5.alloc _) (some ⟨w5.heap.size, 0, none⟩) 1 1 key.cells rfl rfl (by intro h; cases h) (by intro ad had; cases had; exact World.news_of_block (cs := #[.string key.lt, .string key.lc, .string key.rt, .string key.rc, .bool key.ns]) (t := 25) (fr := (0, 0)) (heap_alloc_new w5 _)) (by simp [KeyC.cells, Value.oneCell']) (by omega) ?_; intro w6 own6 gr6; have hB6 : Below w3.heap.size w3 w6 := (hB5.alloc hB5.size _).grown gr6 (by have := hB5.size; simp; omega) (fun k hk => by cases hk; exact Nat.le_refl _))
    | (at_builtin; refine wpList_append_fits_any _ rfl (.tmp 72) (.tmp 75) 22 rfl w3.heap.size 25 i25 5 Try.underlying22 hi25 hs25 w3.heap.size (n + 1) (ks.length + 1) (keysCells (ks.take n) ++ key.cells) rfl own6 a' (ks.length - n) (cK - n) (keysCells (ks.drop n)) rfl hlD HN'.out (RowOf.news (RD.out.below hB6)) (keysCells_one _) (by omega) ?_; intro w7 own7 gr7; have hB7 : Below w3.heap.size w3 w7 := hB6.grown gr7 hB6.size (fun k hk => by cases hk; exact Nat.le_refl _)))
  have rW : RowOf w7 (some ⟨w3.heap.size, 0, none⟩) (keysCells (putIn ks n key)) := by
    refine ⟨w3.heap.size, 0, fun _ => rfl, fun j u hu => ?_⟩
    rw [putIn_cells] at hu
    have := own7.cells rfl j u hu
    rwa [WideShapes.add_plain] at this
  have hB : Below w1.heap.size w1 w7 := hB3.trans (hB7.mono hz3)
  clear hB3 hB5 hB6 hB7 own4 own5 own6 own7 gr4 gr5 gr6 gr7 RT RD HN' HN x0 x1 x2 x3 x4 hK3 hz3
  have hz7 := hB.size
  have RW : Hid (RowOf w7 (some ⟨w3.heap.size, 0, none⟩) (keysCells (putIn ks n key))) := rW
  clear rW
  refine (join_any kind ks cond aK aC cK cC w7 (by omega) hc (RK.out.below hB) (RC.out.below hB)).mono ?_
  rintro e w8 ⟨rfl, aoK3, capK3, aoC3, capC3, ts3, cs3, hJ3, hB8⟩
  have hz8 := hB8.size
  go_wp2_with fail
  refine (joinExprs_any _ _ _ _ _ _ _ _ _ _ _ _ _ _ hJ3 (by omega) hc).mono ?_
  rintro e w9 ⟨ao9, cap9, rfl, X9, hB9⟩
  have hB79 : Below w7.heap.size w7 w9 := hB8.trans (hB9.mono hz8)
  have hB' : Below w1.heap.size w1 w9 := hB.trans (hB79.mono hz7)
  have rW9 := RW.out.below hB79
  clear hJ3 hB8 hB9 hz8 hB RW hB79 hz7
  go_wp2_with fail
  refine (join_len kind (putIn ks n key) cond _ aC (n + 1 + (ks.length - n)) cond.length _ cC w9 (by rw [putIn_len _ _ _ hnk]; omega) rfl (by omega) hc rW9 (RC.out.below hB')).mono ?_
  rintro e w10 ⟨rfl, aoK5, capK5, aoC5, capC5, ts5, cs5, hJ5, hB5⟩
  have hz10 := hB5.size
  clear rW9
  go_wp2_with fail
  refine (joinExprs_any _ _ _ _ _ _ _ _ _ _ _ _ _ _ hJ5 (by omega) hc).mono ?_
  rintro e w11 ⟨ao11, cap11, rfl, X11, hB11⟩
  have hB911 : Below w9.heap.size w9 w11 := hB5.trans (hB11.mono hz10)
  have Y9 := X9.below hB911
  have hB12 : Below w1.heap.size w1 w11 := hB'.trans (hB911.mono hB'.size)
  clear hJ5 hB5 hB11 hz10 X9 hB911 hB'
  go_wp2_with fail
  have HB : Hid (Below w1.heap.size w1 w11) := hB12
  have HF : Hid (Below w.heap.size w w11) := HB0.out.trans (hB12.mono (by omega))
  have H1 : Hid (ExprsAt w11 ao9 (keysCols ks ++ cond)) := Y9
  have H2 : Hid (ExprsAt w11 ao11 (keysCols (putIn ks n key) ++ cond)) := X11
  clear hB12 Y9 X11 HB0 RK
  go_loopw [15] (fun i wr => ∃ p : Nat, p ≤ 2 * n ∧ i = .int .i64 p ∧ Below w11.heap.size w11 wr) (fun i _ => 2 * n - (intOf i).toNat)
  case atStart => exact ⟨0, by omega, rfl, Below.refl _ _⟩
  case round =>
    obtain ⟨p, hp, rfl, hB⟩ := hrel
    by_cases hlt : p < 2 * n
    · have hl1 : (keysCols ks ++ cond).length = 2 * ks.length + cond.length := by rw [List.length_append, keysCols_len]; omega
      obtain ⟨c, hc1⟩ : ∃ c, (keysCols ks ++ cond)[p]? = some c := ⟨_, List.getElem?_eq_getElem (by omega)⟩
      have hc2 : (keysCols (putIn ks n key) ++ cond)[p]? = some c := by rw [put_before ks n p key cond hnk hlt]; exact hc1
      obtain ⟨g8, x8, rfl, c8, _, h8, _⟩ := H1.out.get hB hc1
      obtain ⟨g4, x4, rfl, c4, _, h4, _⟩ := H2.out.get hB hc2
      have b3 : (p : Int) < ((2 * ks.length + cond.length : Nat) : Int) := by omega
      have b4 : (p : Int) < ((2 * (n + 1 + (ks.length - n)) + cond.length : Nat) : Int) := by omega
      have G8 : Hid _ := h8
      have G4 : Hid _ := h4
      clear h8 h4 hl1 hc1 hc2
      go_wp2_with fail
      refine (columnOf_any x8 c.1 c.2 _ (by first | exact G8.out 0 | exact G8.out _)).mono ?_
      rintro e w9 ⟨rfl, k9, rfl⟩
      go_wp2_with fail
      refine (columnOf_any x4 c.1 c.2 _ (by exact G4.out _)).mono ?_
      rintro e w9 ⟨rfl, k9', rfl⟩
      go_wp2
      go_roundw
      case rel => first | exact ⟨p + 1, by omega, by go_num, draws_below hB _⟩ | ((repeat apply Exists.intro); exact ⟨⟨p + 1, by omega, by go_num, draws_below hB _⟩, rfl⟩)
      case measure => simp [intOf]; omega
    · obtain ⟨g4, x4, e4, c4, _, h4, _⟩ := H2.out.get hB (put_left ks n key cond hnk)
      obtain ⟨g4', x5, e5, c5, _, h5, _⟩ := H2.out.get hB (put_right ks n key cond hnk)
      rw [e4] at e5
      simp only [Option.some.injEq, Addr.mk.injEq, and_true] at e5
      subst e5 e4
      obtain ⟨y0, y1, y2, y3, y4⟩ := boxCells (((HB.out.trans (hB.mono HB.out.size)).block _ hz0).trans HK0.out)
      have b3 : 2 * (n : Int) < ((2 * (n + 1 + (ks.length - n)) + cond.length : Nat) : Int) := by omega
      have b4 : 2 * (n : Int) + 1 < ((2 * (n + 1 + (ks.length - n)) + cond.length : Nat) : Int) := by omega
      have G4 : Hid _ := h4
      have G5 : Hid _ := h5
      clear h4 h5
      go_wp2_with fail
      refine (columnOf_any x4 key.lt key.lc _ (by first | exact G4.out 0 | exact G4.out _)).mono ?_
      rintro e w9 ⟨rfl, k9, rfl⟩
      go_wp2_with fail
      refine (columnOf_any x5 key.rt key.rc _ (by exact G5.out _)).mono ?_
      rintro e w9 ⟨rfl, k9', rfl⟩
      clear G4 G5
      go_wp2
      clear b3 b4 y0 y1 y2 y3 y4 c4 c5
      go_loopw [28] (fun i wr => ∃ p : Nat, 2 * n ≤ p ∧ p ≤ 2 * ks.length + cond.length ∧ i = .int .i64 p ∧ Below w11.heap.size w11 wr) (fun i _ => 2 * ks.length + cond.length - (intOf i).toNat)
      case atStart => exact ⟨2 * n, by omega, by omega, by rw [show (2 * (n : Int)) = ((2 * n : Nat) : Int) by omega], draws_below hB _⟩
      case round =>
        clear hB hlt hp
        obtain ⟨p, hp0, hp, rfl, hB⟩ := hrel
        by_cases hlt : p < 2 * ks.length + cond.length
        · have hl1 : (keysCols ks ++ cond).length = 2 * ks.length + cond.length := by rw [List.length_append, keysCols_len]; omega
          obtain ⟨c, hc1⟩ : ∃ c, (keysCols ks ++ cond)[p]? = some c := ⟨_, List.getElem?_eq_getElem (by omega)⟩
          have hc2 : (keysCols (putIn ks n key) ++ cond)[p + 2]? = some c := by rw [put_behind ks n p key cond hnk hp0]; exact hc1
          obtain ⟨g8, x8, rfl, c8, _, h8, _⟩ := H1.out.get hB hc1
          obtain ⟨g5, x5, e5, c5, _, h5, _⟩ := H2.out.get hB hc2
          simp only [Option.some.injEq, Addr.mk.injEq, and_true] at e5
          subst e5
          have b3 : (p : Int) < ((2 * ks.length + cond.length : Nat) : Int) := by omega
          have b4 : (p : Int) + 2 < ((2 * (n + 1 + (ks.length - n)) + cond.length : Nat) : Int) := by omega
          have G8 : Hid _ := h8
          have G5 : Hid _ := h5
          clear h8 h5 hl1 hc1 hc2
          go_wp2_with fail
          refine (columnOf_any x8 c.1 c.2 _ (by first | exact G8.out 0 | exact G8.out _)).mono ?_
          rintro e w9 ⟨rfl, k9, rfl⟩
          go_wp2_with fail
          refine (columnOf_any x5 c.1 c.2 _ (by exact G5.out _)).mono ?_
          rintro e w9 ⟨rfl, k9', rfl⟩
          go_wp2
          go_roundw
          case rel => first | exact ⟨p + 1, by omega, by omega, by go_num, draws_below hB _⟩ | ((repeat apply Exists.intro); exact ⟨⟨p + 1, by omega, by omega, by go_num, draws_below hB _⟩, rfl⟩)
          case measure => simp [intOf]; omega
        · clear H2
          go_wp2
          go_loopw [35] (fun i wr => ∃ p : Nat, p ≤ cond.length ∧ i = .int .i64 p ∧ Below w11.heap.size w11 wr) (fun i _ => cond.length - (intOf i).toNat)
          case atStart => exact ⟨0, by omega, rfl, hB⟩
          case round =>
            clear hB hlt hp hp0
            obtain ⟨p, hp, rfl, hB⟩ := hrel
            by_cases hlt : p < cond.length
            · obtain ⟨c, hc0⟩ : ∃ c, cond[p]? = some c := ⟨_, List.getElem?_eq_getElem hlt⟩
              have hc8 : (keysCols ks ++ cond)[2 * ks.length + p]? = some c := by rw [List.getElem?_append_right (by rw [keysCols_len]; omega), keysCols_len, show 2 * ks.length + p - ks.length * 2 = p by omega]; exact hc0
              obtain ⟨g8, x8, rfl, c8, _, h8, _⟩ := H1.out.get hB hc8
              obtain ⟨b, off, hao, hcell⟩ := RC.out.below (HB.out.trans (hB.mono HB.out.size))
              have hne : condCells cond ≠ [] := fun e => by have := flat_len colCells 2 (fun _ => rfl) cond; rw [show cond.flatMap colCells = [] from e] at this; simp at this; omega
              have hao' := hao hne
              subst hao'
              have q0 : wr.cell? ⟨b, off + p * 2, none⟩ = some (.string c.1) := cond_cell hcell hc0 0 _ (by omega) rfl
              have q1 : wr.cell? ⟨b, off + p * 2 + 1, none⟩ = some (.string c.2) := cond_cell hcell hc0 1 _ (by omega) rfl
              have b1 : (p : Int) < (cond.length : Int) := by omega
              have b3 : 2 * (ks.length : Int) + (p : Int) < ((2 * ks.length + cond.length : Nat) : Int) := by omega
              have G8 : Hid _ := h8
              clear h8 hc8 hc0 hao hcell hne
              go_wp2_with fail
              refine (columnOf_any x8 c.1 c.2 _ (by first | exact G8.out 0 | exact G8.out _)).mono ?_
              rintro e w9 ⟨rfl, k9, rfl⟩
              go_wp2
              go_roundw
              case rel => first | exact ⟨p + 1, by omega, by go_num, draws_below hB _⟩ | ((repeat apply Exists.intro); exact ⟨⟨p + 1, by omega, by go_num, draws_below hB _⟩, rfl⟩)
              case measure => simp [intOf]; omega
            · go_wp2
              go_ret
              exact ⟨rfl, HF.out.trans (hB.mono HF.out.size)⟩
#print axioms put_walk
end Go.Proofs.Qxb6614899a
