/-
  THE WALK OF FnScanAliasOfItsOwnQualifier (5).
-/
import Derived.Test.Qxb6614899aProg
import Derived.WalkKit
import Derived.WalkLawsBesides
import Derived.OwnWalk
import Derived.Outline
namespace Go.Proofs.Qxb6614899a
open Go.RowKit

/-- zzAdd, both within the limit. -/
theorem add_any (t n : Int) (w : World) (h0 : 0 ≤ t) (h1 : t ≤ 1048576) (h2 : 0 ≤ n) (h3 : n ≤ 1048576) : Calls Try.prog 15 #[.int .i64 t, .int .i64 n] w fun e w' => e = .returned (.int .i64 (t + n)) ∧ w = w' := by
  go_enter Try.func15, Try.ntmps15
  go_wp2
  go_ret
  exact ⟨rfl, rfl⟩

theorem bytes12_yes (s t : ByteArray) (w : World) (h : s.size + t.size ≤ 1048576) : Calls Try.prog 12 #[.string s, .string t] w fun e w' => e = .returned (.bool true) ∧ w = w' := by
  go_enter Try.func12, Try.ntmps12
  go_wp2
  go_ret
  exact ⟨rfl, rfl⟩

theorem bytes12_no (s t : ByteArray) (w : World) (hs : s.size ≤ maxLen) (ht : t.size ≤ maxLen) (h : 1048576 < s.size + t.size) : Calls Try.prog 12 #[.string s, .string t] w fun e w' => e = .returned (.bool false) ∧ w = w' := by
  unfold maxLen at hs ht
  by_cases h1 : 1048576 < s.size
  · go_enter Try.func12, Try.ntmps12
    go_wp2
    go_ret
    exact ⟨rfl, rfl⟩
  · by_cases h2 : 1048576 < t.size
    · go_enter Try.func12, Try.ntmps12
      go_wp2
      go_ret
      exact ⟨rfl, rfl⟩
    · go_enter Try.func12, Try.ntmps12
      go_wp2
      go_ret
      exact ⟨rfl, rfl⟩

theorem tooBig_no (s t : ByteArray) (w : World) (h : s.size + t.size ≤ 1048576) : Calls Try.prog 13 #[.string s, .string t, .string ⟨#[]⟩, .slice none 0 0] w fun e w' => e = .returned (.bool false) ∧ w = w' := by
  go_enter Try.func13, Try.ntmps13
  go_wp2_with fail
  refine (add_any _ _ _ (by omega) (by omega) (by omega) (by omega)).mono ?_
  rintro e w1 ⟨rfl, rfl⟩
  go_wp2_with fail
  refine (add_any _ _ _ (by omega) (by omega) (by omega) (by omega)).mono ?_
  rintro e w1 ⟨rfl, rfl⟩
  go_wp2_with fail
  refine (add_any _ _ _ (by omega) (by omega) (by omega) (by omega)).mono ?_
  rintro e w1 ⟨rfl, rfl⟩
  go_wp2
  refine wp_loop_rounds 1 ?_
  rw [rounds_succ]
  go_wp2
  go_ret
  exact ⟨rfl, rfl⟩

theorem scan_big (s t : ByteArray) (w : World) (hs : s.size ≤ maxLen) (ht : t.size ≤ maxLen) (h : 1048576 < s.size + t.size) : Calls Try.prog 5 #[.string s, .string t] w fun e w' => e = .returned (.bool true) ∧ Below w.heap.size w w' := by
  go_enter Try.func5, Try.ntmps5
  go_wp2_with fail
  refine (bytes12_no s t _ hs ht h).mono ?_
  rintro e w1 ⟨rfl, rfl⟩
  go_wp2
  go_ret
  exact ⟨rfl, Below.refl _ _⟩

set_option maxHeartbeats 1000000 in
theorem scan_empty (t : ByteArray) (w : World) (h : t.size ≤ 1048576) : Calls Try.prog 5 #[.string ⟨#[]⟩, .string t] w fun e w' => e = .returned (.bool true) ∧ Below w.heap.size w w' := by
  go_enter Try.func5, Try.ntmps5
  go_wp2_with fail
  refine (bytes12_yes _ _ _ (by have : (ByteArray.mk #[]).size = 0 := rfl; omega)).mono ?_
  rintro e w1 ⟨rfl, rfl⟩
  go_wp2_with fail
  refine (tooBig_no _ _ _ (by have : (ByteArray.mk #[]).size = 0 := rfl; omega)).mono ?_
  rintro e w1 ⟨rfl, rfl⟩
  go_wp2
  all_goals
    go_ret
    exact ⟨rfl, ((((Below.refl _ _).alloc (Nat.le_refl _) _).alloc (by simp) _).alloc (by simp; omega) _).alloc (by simp; omega) _⟩

set_option maxHeartbeats 1000000 in
theorem scan_full (s t : ByteArray) (w : World) (h : s.size + t.size ≤ 1048576) (hne : s.toList.isEmpty = false) : Calls Try.prog 5 #[.string s, .string t] w fun e w' => e = .returned (.bool true) ∧ Below w.heap.size w w' := by
  go_enter Try.func5, Try.ntmps5
  go_wp2_with fail
  refine (bytes12_yes _ _ _ h).mono ?_
  rintro e w1 ⟨rfl, rfl⟩
  go_wp2_with fail
  refine (tooBig_no _ _ _ h).mono ?_
  rintro e w1 ⟨rfl, rfl⟩
  go_wp2
  all_goals
    go_ret
    exact ⟨rfl, ((((Below.refl _ _).alloc (Nat.le_refl _) _).alloc (by simp) _).alloc (by simp; omega) _).alloc (by simp; omega) _⟩

theorem scan_walk (s t : ByteArray) (w : World) (hs : s.size ≤ maxLen) (ht : t.size ≤ maxLen) : Calls Try.prog 5 #[.string s, .string t] w fun e w' => e = .returned (.bool true) ∧ Below w.heap.size w w' := by
  by_cases h : s.size + t.size ≤ 1048576
  · cases hne : s.toList.isEmpty
    · exact scan_full s t w h hne
    · obtain ⟨⟨l⟩⟩ := s
      cases l with
      | nil => exact scan_empty t w (by have : (ByteArray.mk ⟨[]⟩).size = 0 := rfl; omega)
      | cons a l => exact absurd hne (by rw [ByteArray.toList_eq]; simp)
  · exact scan_big s t w hs ht (by omega)

#print axioms scan_walk
end Go.Proofs.Qxb6614899a
