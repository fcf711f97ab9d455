/-
  THE WORDS: skipLiteral, zzWord.
-/
import Derived.Test.Qxb6616012aGMStr
import Derived.Laws.IdiomStrings
import Derived.WideShapes
namespace Go.Proofs.Qxb6616012a.G
open Go.RowKit

theorem drew2 (w : World) (a b : Nat) : (w.drewN a).drewN b = w.drewN (a + b) := by simp [World.drewN, Nat.add_assoc]

theorem same_iff (D : Nat → Int) (us : List Int) (p : Nat) : same D us p = true ↔ ∀ k (hk : k < us.length), D (p + k) = us[k] := by
  induction us generalizing p with
  | nil => simp [same]
  | cons c r ih =>
    simp only [same, Bool.and_eq_true, beq_iff_eq, ih]
    constructor
    · rintro ⟨h1, h2⟩ k hk
      cases k with
      | zero => simpa using h1
      | succ k =>
        have := h2 k (by simpa using hk)
        simp only [List.getElem_cons_succ]
        rw [← this]
        congr 1
        omega
    · intro h
      refine ⟨h 0 (by simp), fun k hk => ?_⟩
      have := h (k + 1) (by simpa using hk)
      simp only [List.getElem_cons_succ] at this
      rw [← this]
      congr 1
      omega

def bytesOf (D : Nat → Int) (p L : Nat) : List UInt8 := (List.range L).map fun k => UInt8.ofNat (D (p + k)).toNat
theorem bytesOf_len (D : Nat → Int) (p L : Nat) : (bytesOf D p L).length = L := by simp [bytesOf]

/-- A word of the program's text: its bytes as numbers. -/
structure IsWord (u : ByteArray) (us : List Int) : Prop where
  len : us.length = u.size
  get : ∀ k (hk : k < us.length), us[k] = ((u.data[k]'(by rw [len] at hk; exact hk)).toNat : Int)

theorem bytes_ne (D : Nat → Int) (hby : ∀ i, 0 ≤ D i ∧ D i < 256) (u : ByteArray) (us : List Int) (h : IsWord u us) (p : Nat) (hs : same D us p = false) : (⟨(bytesOf D p us.length).toArray⟩ : ByteArray) ≠ u := by
  intro e
  have : same D us p = true := by
    rw [same_iff]
    intro k hk
    rw [h.get k hk]
    have h1 : (bytesOf D p us.length).toArray = u.data := by rw [← e]
    have h2 : u.data[k]'(by have := h.len; rw [this] at hk; exact hk) = UInt8.ofNat (D (p + k)).toNat := by
      simp only [← h1]
      simp [bytesOf]
    rw [h2]
    have := hby (p + k)
    simp
    omega
  rw [this] at hs
  cases hs

theorem bytes_eq (D : Nat → Int) (u : ByteArray) (us : List Int) (h : IsWord u us) (p : Nat) (hs : same D us p = true) : (⟨(bytesOf D p us.length).toArray⟩ : ByteArray) = u := by
  rw [same_iff] at hs
  have h1 : (bytesOf D p us.length).toArray = u.data := by
    apply Array.ext
    · have := h.len
      simp [bytesOf_len]
      exact this
    · intro k hk hk'
      have hk2 : k < us.length := by simpa [bytesOf_len] using hk
      have a := hs k hk2
      have b := h.get k hk2
      simp [bytesOf, a, b]
  cases u
  simp at h1 ⊢
  exact h1

set_option maxHeartbeats 1000000 in
set_option maxRecDepth 100000 in
theorem zzWord_any (g n cap : Nat) (D : Nat → Int) (p : Nat) (u : ByteArray) (us : List Int) (hu : IsWord u us) (w : World) (h : Dat w g n D) (hp : p ≤ n) (hn : n ≤ 1048576) (hL : u.size ≤ 8) :
    Calls Try.prog 22 #[.slice (some ⟨g, 0, none⟩) n cap, .int .i64 p, .string u] w fun e w' => (∃ k, w' = w.drewN k) ∧ ∃ z b, e = .returned (.tuple #[.int .i64 z, .bool b]) ∧ ((b = true ∧ ∃ j : Nat, word D n us p = some j ∧ z = j) ∨ (b = false ∧ word D n us p = none)) := by
  have HD : Hid (Dat w g n D) := h
  clear h
  by_cases hlt : p + u.size ≤ n
  · have b1 : decide ((n : Int) - (p : Int) < (u.size : Int)) = false := by simp; omega
    go_enter Try.func22, Try.ntmps22
    go_wp2_with fail
    go_loopw [8] (fun i wr => ∃ k m : Nat, k ≤ u.size ∧ i = .int .i64 k ∧ wr = w.drewN m ∧ ∀ k' (_ : k' < k) (hk' : k' < us.length), D (p + k') = us[k']) (fun i _ => u.size - (intOf i).toNat)
    case atStart => exact ⟨0, 0, by omega, rfl, rfl, fun k' h => by omega⟩
    case round =>
      obtain ⟨k, m, hk, rfl, rfl, hall⟩ := hrel
      have HA : Hid (∀ k' (_ : k' < k) (hk' : k' < us.length), D (p + k') = us[k']) := hall
      clear hall
      by_cases hk2 : k < u.size
      · have d0 := HD.out (p + k) (by omega)
        have b2 : (p : Int) + (k : Int) < (n : Int) := by omega
        have b3 : (k : Int) < (u.size : Int) := by omega
        have hkl : k < us.length := by rw [hu.len]; exact hk2
        have hg : us[k] = ((u[k]'hk2).toNat : Int) := hu.get k hkl
        by_cases hc : D (p + k) = us[k]
        · have hall : ∀ k' (_ : k' < k + 1) (hk' : k' < us.length), D (p + k') = us[k'] := fun k' h1 h2 => by
            by_cases he : k' = k
            · subst he; exact hc
            · exact HA.out k' (by omega) h2
          have HA' : Hid (∀ k' (_ : k' < k + 1) (hk' : k' < us.length), D (p + k') = us[k']) := hall
          have t1 : (D (p + k) != ((u[k]'hk2).toNat : Int)) = false := by rw [bne_eq_false_iff_eq, ← hg]; exact hc
          clear hall hg hc
          go_wp2
          go_quiet (fail)
          go_wp2
          go_roundw
          case rel => first | exact ⟨k + 1, _, by omega, by go_num, rfl, HA'.out⟩ | ((repeat apply Exists.intro); exact ⟨⟨k + 1, _, by omega, by go_num, rfl, HA'.out⟩, rfl⟩)
          case measure => simp [intOf]; omega
        · have t1 : (D (p + k) != ((u[k]'hk2).toNat : Int)) = true := by rw [bne_iff_ne, ← hg]; exact hc
          have E : Hid (word D n us p = none) := by
            unfold Hid word
            rw [if_neg (fun h => hc ((same_iff D us p).1 h.2 k hkl))]
          clear hg hc
          go_wp2
          go_quiet (fail)
          go_wp2
          go_ret2
          exact ⟨⟨_, drew2 _ _ _⟩, _, _, rfl, Or.inr ⟨rfl, E.out⟩⟩
      · have b3 : decide ((k : Int) < (u.size : Int)) = false := by simp; omega
        have E : Hid (word D n us p = some (p + u.size)) := by
          unfold Hid word
          rw [if_pos ⟨by rw [hu.len]; exact hlt, (same_iff D us p).2 fun k' hk' => HA.out k' (by have := hu.len; omega) hk'⟩, hu.len]
        go_wp2
        go_ret2
        exact ⟨⟨m, rfl⟩, _, _, rfl, Or.inl ⟨rfl, p + u.size, E.out, by omega⟩⟩
  · have b1 : (n : Int) - (p : Int) < (u.size : Int) := by omega
    have E : Hid (word D n us p = none) := by unfold Hid word; rw [if_neg (fun h => hlt (by rw [← hu.len]; exact h.1))]
    go_enter Try.func22, Try.ntmps22
    go_wp2
    go_ret2
    exact ⟨⟨0, rfl⟩, _, _, rfl, Or.inr ⟨rfl, E.out⟩⟩

set_option maxHeartbeats 1000000 in
set_option maxRecDepth 100000 in
theorem skipLiteral_any (s g n cap : Nat) (D : Nat → Int) (dep : Int) (p : Nat) (f : Bool) (u : ByteArray) (us : List Int) (hu : IsWord u us) (hby : ∀ i, 0 ≤ D i ∧ D i < 256) (w : World) (h : Spl w s g n cap D dep p f) (hp : p < n) (hn : n ≤ 1048576) (hL : u.size ≤ 8) :
    Calls Try.prog 36 #[.pointer (some ⟨s, 0, none⟩), .string u] w fun e w' => Sp s w w' ∧ ((e = .returned (.bool true) ∧ ∃ j, word D n us p = some j ∧ Spl w' s g n cap D dep j f) ∨ (e = .returned (.bool false) ∧ word D n us p = none ∧ ∃ p', p ≤ p' ∧ p' ≤ n ∧ Spl w' s g n cap D dep p' f)) := by
  obtain ⟨c0, c1, c2, c3, f1, f3⟩ := h.cells
  have HS : Hid (Spl w s g n cap D dep p f) := h
  have hle := h.le
  clear h
  by_cases hlt : p + u.size ≤ n
  · have b1 : decide ((n : Int) - (p : Int) < (u.size : Int)) = false := by simp; omega
    have b2 : (p : Int) ≤ (p : Int) + (u.size : Int) := by omega
    have b3 : (p : Int) + (u.size : Int) ≤ (cap : Int) := by omega
    have hcv : ∀ k, (convert 28 9 (.slice (some ⟨g, p, none⟩) u.size (cap - p))).run Try.prog (w.drewN k) = .ok (.string ⟨(bytesOf D p u.size).toArray⟩) (w.drewN k) := fun k => by
      have := run_convert_bytes_back (P := Try.prog) (w.drewN k) 28 9 5 ⟨g, p, none⟩ (cap - p) (bytesOf D p u.size) Try.underlying28 Try.underlying5 Try.underlying9 (fun j hj => by
        rw [bytesOf_len] at hj
        rw [WideShapes.add_plain]
        show w.cell? _ = _
        rw [HS.out.dat (p + j) (by omega)]
        have := hby (p + j)
        simp [bytesOf]
        omega)
      rwa [bytesOf_len] at this
    cases hs : same D us p
    · have E : Hid (word D n us p = none) := by unfold Hid word; rw [if_neg (fun h => by rw [hs] at h; exact absurd h.2 (by simp))]
      have hne := bytes_ne D hby u us hu p hs
      rw [hu.len] at hne
      go_enter Try.func36, Try.ntmps36
      go_wp2
      have tne : (bytesOf D p u.size == u.toList) = false := by
        rw [beq_eq_false_iff_ne, ByteArray.toList_eq]
        intro e
        exact hne (by cases u; simp at e ⊢; rw [e])
      clear hne
      go_quiet (fail)
      go_wp2
      go_ret
      exact ⟨(Sp.refl _ _).drewN _, Or.inr ⟨rfl, E.out, p, by omega, by omega, HS.out.drewN _⟩⟩
    · have E : Hid (word D n us p = some (p + u.size)) := by
        unfold Hid word
        rw [if_pos ⟨by rw [hu.len]; exact hlt, hs⟩, hu.len]
      have heq := bytes_eq D u us hu p hs
      rw [hu.len] at heq
      rw [heq] at hcv
      clear heq
      go_enter Try.func36, Try.ntmps36
      go_wp2
      go_quiet (fail)
      go_wp2
      go_ret
      exact ⟨((Sp.refl _ _).drewN _).setCell _ _, Or.inl ⟨rfl, p + u.size, E.out, (HS.out.drewN _).setAt _ _ (by omega)⟩⟩
  · have b1 : (n : Int) - (p : Int) < (u.size : Int) := by omega
    have E : Hid (word D n us p = none) := by unfold Hid word; rw [if_neg (fun h => hlt (by rw [← hu.len]; exact h.1))]
    go_enter Try.func36, Try.ntmps36
    go_wp2
    go_quiet (fail)
    go_wp2
    go_ret
    exact ⟨(Sp.refl _ _).drewN _, Or.inr ⟨rfl, E.out, p, by omega, by omega, HS.out.drewN _⟩⟩

theorem word_true : IsWord ⟨#[116, 114, 117, 101]⟩ [116, 114, 117, 101] := ⟨rfl, fun k hk => by
  simp at hk
  rcases (show k = 0 ∨ k = 1 ∨ k = 2 ∨ k = 3 by omega) with rfl | rfl | rfl | rfl <;> rfl⟩
theorem word_false : IsWord ⟨#[102, 97, 108, 115, 101]⟩ [102, 97, 108, 115, 101] := ⟨rfl, fun k hk => by
  simp at hk
  rcases (show k = 0 ∨ k = 1 ∨ k = 2 ∨ k = 3 ∨ k = 4 by omega) with rfl | rfl | rfl | rfl | rfl <;> rfl⟩
theorem word_null : IsWord ⟨#[110, 117, 108, 108]⟩ [110, 117, 108, 108] := ⟨rfl, fun k hk => by
  simp at hk
  rcases (show k = 0 ∨ k = 1 ∨ k = 2 ∨ k = 3 by omega) with rfl | rfl | rfl | rfl <;> rfl⟩
end Go.Proofs.Qxb6616012a.G
