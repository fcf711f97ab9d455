/-
  THE PLAIN PART OF FnSkipContainerMatchesGrammar: JSON's grammar over bytes D 0 .. D (n-1), no Go in sight.
-/
import Derived.Below
namespace Go.Proofs.Qxb6616012a.G

/-- A step over and over: on (.inl) or the end (.inr). -/
def it {R : Type} (d : R) (step : Nat → Nat ⊕ R) : Nat → Nat → R
  | 0, _ => d
  | k + 1, j => match step j with
    | .inl j' => it d step k j'
    | .inr r => r

def run {R : Type} (d : R) (step : Nat → Nat ⊕ R) (n j : Nat) : R := it d step (n + 1) j

section
variable {R : Type} {d : R} {step : Nat → Nat ⊕ R} {n : Nat}

theorem it_fuel (hs : ∀ j j', step j = .inl j' → j < j' ∧ j < n) (k : Nat) : ∀ k' j, n - j < k → n - j < k' → it d step k j = it d step k' j := by
  induction k with
  | zero => intro k' j h; omega
  | succ k ih =>
    intro k' j h h'
    cases k' with
    | zero => omega
    | succ k' =>
      simp only [it]
      cases hj : step j with
      | inl j' =>
        have := hs j j' hj
        exact ih k' j' (by omega) (by omega)
      | inr r => rfl

theorem run_go (hs : ∀ j j', step j = .inl j' → j < j' ∧ j < n) {j j' : Nat} (h : step j = .inl j') : run d step n j = run d step n j' := by
  have h2 := hs j j' h
  have : run d step n j = it d step n j' := by simp only [run, it, h]
  rw [this]
  exact it_fuel hs n (n + 1) j' (by omega) (by omega)

theorem run_stop {j : Nat} {r : R} (h : step j = .inr r) : run d step n j = r := by simp only [run, it, h]

theorem run_ind (hs : ∀ j j', step j = .inl j' → j < j' ∧ j < n) {P : Nat → R → Prop} (hstop : ∀ j r, step j = .inr r → P j r) (hgo : ∀ j j' r, step j = .inl j' → P j' r → P j r) (j : Nat) : P j (run d step n j) := by
  induction hm : n - j using Nat.strongRecOn generalizing j with
  | ind m ih =>
    cases hj : step j with
    | inl j' =>
      have := hs j j' hj
      rw [run_go hs hj]
      exact hgo _ _ _ hj (ih (n - j') (by omega) j' rfl)
    | inr r =>
      rw [run_stop hj]
      exact hstop _ _ hj
end

section
variable (D : Nat → Int) (n : Nat)

def isWs (c : Int) : Bool := c == 32 || c == 9 || c == 10 || c == 13
def isDg (c : Int) : Bool := decide (48 ≤ c) && decide (c ≤ 57)
def isHx (c : Int) : Bool := isDg c || (decide (97 ≤ c) && decide (c ≤ 102)) || (decide (65 ≤ c) && decide (c ≤ 70))
def isEsc (c : Int) : Bool := c == 34 || c == 92 || c == 47 || c == 98 || c == 102 || c == 110 || c == 114 || c == 116

def wsStep (j : Nat) : Nat ⊕ Nat := if j < n ∧ isWs (D j) = true then .inl (j + 1) else .inr j
def dgStep (j : Nat) : Nat ⊕ Nat := if j < n ∧ isDg (D j) = true then .inl (j + 1) else .inr j
def hex4 (j : Nat) : Bool := isHx (D j) && isHx (D (j + 1)) && isHx (D (j + 2)) && isHx (D (j + 3))
/-- j stands in the string, on a backslash: where it goes on behind the escape. -/
def escAt (j : Nat) : Option Nat :=
  if n ≤ j + 1 then none else if isEsc (D (j + 1)) = true then some (j + 2) else if D (j + 1) ≠ 117 ∨ n ≤ j + 5 then none else if hex4 D (j + 2) = true then some (j + 6) else none
def strStep (j : Nat) : Nat ⊕ Option Nat :=
  if n ≤ j then .inr none else if D j = 34 then .inr (some (j + 1)) else if D j < 32 then .inr none else if D j ≠ 92 then .inl (j + 1) else match escAt D n j with
    | none => .inr none
    | some j' => .inl j'

def ws (j : Nat) : Nat := run 0 (wsStep D n) n j
def dg (j : Nat) : Nat := run 0 (dgStep D n) n j
def str (j : Nat) : Option Nat := run none (strStep D n) n j

theorem wsStep_ok (j j' : Nat) (h : wsStep D n j = .inl j') : j < j' ∧ j < n := by
  unfold wsStep at h
  split at h
  · rename_i hc; cases h; omega
  · cases h
theorem dgStep_ok (j j' : Nat) (h : dgStep D n j = .inl j') : j < j' ∧ j < n := by
  unfold dgStep at h
  split at h
  · rename_i hc; cases h; omega
  · cases h
theorem escAt_ok (j j' : Nat) (h : escAt D n j = some j') : j + 2 ≤ j' ∧ j' ≤ n := by
  unfold escAt at h
  split at h
  · cases h
  · split at h
    · cases h; omega
    · split at h
      · cases h
      · split at h
        · cases h; omega
        · cases h
theorem strStep_ok (j j' : Nat) (h : strStep D n j = .inl j') : j < j' ∧ j < n := by
  unfold strStep at h
  split at h
  · cases h
  · split at h
    · cases h
    · split at h
      · cases h
      · split at h
        · cases h; omega
        · split at h
          · cases h
          · rename_i he; cases h
            have := escAt_ok D n _ _ he
            omega

theorem ws_go {j : Nat} (h : j < n) (hc : isWs (D j) = true) : ws D n j = ws D n (j + 1) := run_go (wsStep_ok D n) (by simp [wsStep, h, hc])
theorem ws_stop {j : Nat} (h : ¬ (j < n ∧ isWs (D j) = true)) : ws D n j = j := run_stop (by simp only [wsStep]; rw [if_neg h])
theorem ws_le (j : Nat) : j ≤ ws D n j := run_ind (wsStep_ok D n) (P := fun j r => j ≤ r)
  (fun j r h => by unfold wsStep at h; split at h <;> cases h; exact Nat.le_refl _) (fun j j' r h hp => by have := wsStep_ok D n _ _ h; omega) j
theorem ws_n {j : Nat} : j ≤ n → ws D n j ≤ n := run_ind (wsStep_ok D n) (P := fun j r => j ≤ n → r ≤ n)
  (fun j r h => by unfold wsStep at h; split at h <;> cases h; exact id) (fun j j' r h hp _ => hp (by unfold wsStep at h; split at h <;> cases h; omega)) j
theorem ws_end (j : Nat) : ¬ (ws D n j < n ∧ isWs (D (ws D n j)) = true) := run_ind (wsStep_ok D n) (P := fun _ r => ¬ (r < n ∧ isWs (D r) = true))
  (fun j r h => by unfold wsStep at h; split at h <;> cases h; assumption) (fun _ _ _ _ hp => hp) j
theorem ws_ws (j : Nat) : ws D n (ws D n j) = ws D n j := ws_stop D n (ws_end D n j)

theorem dg_go {j : Nat} (h : j < n) (hc : isDg (D j) = true) : dg D n j = dg D n (j + 1) := run_go (dgStep_ok D n) (by simp [dgStep, h, hc])
theorem dg_stop {j : Nat} (h : ¬ (j < n ∧ isDg (D j) = true)) : dg D n j = j := run_stop (by simp only [dgStep]; rw [if_neg h])
theorem dg_le (j : Nat) : j ≤ dg D n j := run_ind (dgStep_ok D n) (P := fun j r => j ≤ r)
  (fun j r h => by unfold dgStep at h; split at h <;> cases h; exact Nat.le_refl _) (fun j j' r h hp => by have := dgStep_ok D n _ _ h; omega) j
theorem dg_n {j : Nat} : j ≤ n → dg D n j ≤ n := run_ind (dgStep_ok D n) (P := fun j r => j ≤ n → r ≤ n)
  (fun j r h => by unfold dgStep at h; split at h <;> cases h; exact id) (fun j j' r h hp _ => hp (by unfold dgStep at h; split at h <;> cases h; omega)) j

theorem str_out {j : Nat} (h : n ≤ j) : str D n j = none := run_stop (by simp [strStep, h])
theorem str_quote {j : Nat} (h : j < n) (hc : D j = 34) : str D n j = some (j + 1) := run_stop (by simp [strStep, hc]; omega)
theorem str_low {j : Nat} (h : j < n) (hc : D j < 32) : str D n j = none := run_stop (by simp only [strStep]; rw [if_neg (by omega), if_neg (by omega), if_pos hc])
theorem str_plain {j : Nat} (h : j < n) (h1 : D j ≠ 34) (h2 : ¬ D j < 32) (h3 : D j ≠ 92) : str D n j = str D n (j + 1) := run_go (strStep_ok D n) (by simp only [strStep]; rw [if_neg (by omega), if_neg h1, if_neg h2, if_pos h3])
theorem str_esc_no {j : Nat} (h : j < n) (hc : D j = 92) (he : escAt D n j = none) : str D n j = none := run_stop (by simp only [strStep]; rw [if_neg (by omega), if_neg (by omega), if_neg (by omega), if_neg (by omega), he])
theorem str_esc {j j' : Nat} (h : j < n) (hc : D j = 92) (he : escAt D n j = some j') : str D n j = str D n j' := run_go (strStep_ok D n) (by simp only [strStep]; rw [if_neg (by omega), if_neg (by omega), if_neg (by omega), if_neg (by omega), he])
theorem str_n (j : Nat) : ∀ e, str D n j = some e → j < e ∧ e ≤ n := run_ind (strStep_ok D n) (P := fun j r => ∀ e, r = some e → j < e ∧ e ≤ n)
  (fun j r h e he => by
    subst he
    unfold strStep at h
    split at h
    · cases h
    · split at h
      · cases h; omega
      · split at h
        · cases h
        · split at h
          · cases h
          · split at h <;> cases h)
  (fun j j' r h hp e he => by have := strStep_ok D n _ _ h; have := hp e he; omega) j

def num1 (i : Nat) : Nat := if i < n ∧ D i = 45 then i + 1 else i
def num2 (j : Nat) : Option Nat := if j < n ∧ D j = 48 then some (j + 1) else if dg D n j = j then none else some (dg D n j)
def num3 (j : Nat) : Option Nat := if j < n ∧ D j = 46 then (if dg D n (j + 1) = j + 1 then none else some (dg D n (j + 1))) else some j
def sgn (j : Nat) : Nat := if j < n ∧ (D j = 43 ∨ D j = 45) then j + 1 else j
def num4 (j : Nat) : Option Nat := if j < n ∧ (D j = 101 ∨ D j = 69) then (if dg D n (sgn D n (j + 1)) = sgn D n (j + 1) then none else some (dg D n (sgn D n (j + 1)))) else some j
def num (i : Nat) : Option Nat := match num2 D n (num1 D n i) with
  | none => none
  | some j => match num3 D n j with
    | none => none
    | some k => num4 D n k

theorem num1_n {i : Nat} (h : i ≤ n) : i ≤ num1 D n i ∧ num1 D n i ≤ n := by unfold num1; split <;> omega
theorem num2_n {j e : Nat} (h : j ≤ n) (he : num2 D n j = some e) : j < e ∧ e ≤ n := by
  unfold num2 at he
  split at he
  · cases he; omega
  · split at he
    · cases he
    · cases he
      have := dg_le D n j
      have := dg_n D n h
      omega
theorem num3_n {j e : Nat} (h : j ≤ n) (he : num3 D n j = some e) : j ≤ e ∧ e ≤ n := by
  unfold num3 at he
  split at he
  · split at he
    · cases he
    · cases he
      have := dg_le D n (j + 1)
      have := dg_n D n (j := j + 1) (by omega)
      omega
  · cases he; omega
theorem sgn_n {j : Nat} (h : j ≤ n) : j ≤ sgn D n j ∧ sgn D n j ≤ n := by unfold sgn; split <;> omega
theorem num4_n {j e : Nat} (h : j ≤ n) (he : num4 D n j = some e) : j ≤ e ∧ e ≤ n := by
  unfold num4 at he
  split at he
  · have h1 := sgn_n D n (j := j + 1) (by omega)
    split at he
    · cases he
    · cases he
      have := dg_le D n (sgn D n (j + 1))
      have := dg_n D n (j := sgn D n (j + 1)) (by omega)
      omega
  · cases he; omega
theorem num_n {i e : Nat} (h : i ≤ n) (he : num D n i = some e) : i < e ∧ e ≤ n := by
  unfold num at he
  have h1 := num1_n D n h
  cases h2 : num2 D n (num1 D n i) with
  | none => rw [h2] at he; cases he
  | some j =>
    rw [h2] at he
    have h3 := num2_n D n h1.2 h2
    simp only at he
    cases h4 : num3 D n j with
    | none => rw [h4] at he; cases he
    | some k =>
      rw [h4] at he
      have h5 := num3_n D n h3.2 h4
      have h6 := num4_n D n h5.2 he
      omega

/-- A word, its bytes given. -/
def same (ws' : List Int) (i : Nat) : Bool := match ws' with
  | [] => true
  | c :: r => (D i == c) && same r (i + 1)
def word (ws' : List Int) (i : Nat) : Option Nat := if i + ws'.length ≤ n ∧ same D ws' i = true then some (i + ws'.length) else none
def scal (i : Nat) : Option Nat :=
  if D i = 34 then str D n (i + 1) else if D i = 116 then word D n [116, 114, 117, 101] i else if D i = 102 then word D n [102, 97, 108, 115, 101] i else if D i = 110 then word D n [110, 117, 108, 108] i else num D n i

theorem scal_n {i e : Nat} (h : i < n) (he : scal D n i = some e) : i < e ∧ e ≤ n := by
  unfold scal at he
  split at he
  · have := str_n D n (i + 1) e he
    omega
  · split at he
    · unfold word at he; split at he
      · cases he; simp at *; omega
      · cases he
    · split at he
      · unfold word at he; split at he
        · cases he; simp at *; omega
        · cases he
      · split at he
        · unfold word at he; split at he
          · cases he; simp at *; omega
          · cases he
        · exact num_n D n (by omega) he

/-- What stands ahead of a value inside a container with this closer: for an object the name and the colon. -/
def pre (c : Int) (j : Nat) : Option Nat :=
  if c = 125 then (if j < n ∧ D j = 34 then (match str D n (j + 1) with
    | none => none
    | some e => if ws D n e < n ∧ D (ws D n e) = 58 then some (ws D n (ws D n e + 1)) else none) else none) else some j
theorem pre_n {c : Int} {j j' : Nat} (h : pre D n c j = some j') : j ≤ j' := by
  unfold pre at h
  split at h
  · split at h
    · split at h
      · cases h
      · rename_i e he
        have h1 := str_n D n _ _ he
        split at h
        · cases h
          have := ws_le D n e
          have := ws_le D n (ws D n e + 1)
          omega
        · cases h
    · cases h
  · cases h; exact Nat.le_refl _

def closer (c : Int) : Int := if c = 123 then 125 else 93

/-- none: a value at i. some c: the values of a container with closer c, from j on. -/
def V : Nat → Option Int → Nat → Nat → Except Bool Nat
  | 0, _, _, _ => .error false
  | f + 1, none, i, lev => if n ≤ i then .error false else if D i = 123 ∨ D i = 91 then (if 10000 ≤ lev then .error false else if ws D n (i + 1) < n ∧ D (ws D n (i + 1)) = closer (D i) then .ok (ws D n (i + 1) + 1) else V f (some (closer (D i))) (ws D n (i + 1)) lev) else match scal D n i with
    | none => .error false
    | some e => .ok e
  | f + 1, some c, j, lev => match pre D n c j with
    | none => .error true
    | some j' => match V f none j' (lev + 1) with
      | .error b => .error b
      | .ok e => if ws D n e < n ∧ D (ws D n e) = c then .ok (ws D n e + 1) else if ws D n e < n ∧ D (ws D n e) = 44 then V f (some c) (ws D n (ws D n e + 1)) lev else .error true

theorem V_n (f : Nat) : ∀ k i lev e, V D n f k i lev = .ok e → i < e ∧ e ≤ n := by
  induction f with
  | zero => intro k i lev e h; cases h
  | succ f ih =>
    intro k i lev e h
    cases k with
    | none =>
      simp only [V] at h
      split at h
      · cases h
      · split at h
        · split at h
          · cases h
          · have hw := ws_le D n (i + 1)
            split at h
            · cases h; omega
            · have := ih _ _ _ _ h
              omega
        · split at h
          · cases h
          · rename_i hs
            cases h
            exact scal_n D n (by omega) hs
    | some c =>
      simp only [V] at h
      split at h
      · cases h
      · rename_i j' hp
        have hp := pre_n D n hp
        split at h
        · cases h
        · rename_i e1 hv
          have h1 := ih _ _ _ _ hv
          have hw := ws_le D n e1
          split at h
          · cases h; omega
          · split at h
            · have := ih _ _ _ _ h
              have := ws_le D n (ws D n e1 + 1)
              omega
            · cases h

def mu (k : Option Int) (i : Nat) : Nat := match k with
  | none => 2 * (n - i)
  | some _ => 2 * (n - i) + 1

theorem V_fuel (f : Nat) : ∀ f' k i lev, mu n k i < f → mu n k i < f' → V D n f k i lev = V D n f' k i lev := by
  induction f with
  | zero => intro f' k i lev h; omega
  | succ f ih =>
    intro f' k i lev h h'
    cases f' with
    | zero => omega
    | succ f' =>
      cases k with
      | none =>
        simp only [V]
        simp only [mu] at h h'
        by_cases hn : n ≤ i
        · rw [if_pos hn, if_pos hn]
        · have hw := ws_le D n (i + 1)
          rw [if_neg hn, if_neg hn, ih f' (some (closer (D i))) (ws D n (i + 1)) lev (by simp only [mu]; omega) (by simp only [mu]; omega)]
      | some c =>
        simp only [V]
        simp only [mu] at h h'
        cases hp : pre D n c i with
        | none => rfl
        | some j' =>
          have hp := pre_n D n hp
          simp only
          rw [ih f' none j' (lev + 1) (by simp only [mu]; omega) (by simp only [mu]; omega)]
          cases hv : V D n f' none j' (lev + 1) with
          | error b => rfl
          | ok e =>
            have h1 := V_n D n _ _ _ _ _ hv
            have hw := ws_le D n e
            have hw2 := ws_le D n (ws D n e + 1)
            simp only
            rw [ih f' (some c) (ws D n (ws D n e + 1)) lev (by simp only [mu]; omega) (by simp only [mu]; omega)]

def val (i lev : Nat) : Except Bool Nat := V D n (2 * n + 3) none i lev
def loop (c : Int) (j lev : Nat) : Except Bool Nat := V D n (2 * n + 3) (some c) j lev
/-- Behind a value: the closer, or a comma and more. k: behind the white space. -/
def rest (c : Int) (k lev : Nat) : Except Bool Nat := if k < n ∧ D k = c then .ok (k + 1) else if k < n ∧ D k = 44 then loop D n c (ws D n (k + 1)) lev else .error true
/-- Behind the opening bracket. -/
def start (c : Int) (k lev : Nat) : Except Bool Nat := if k < n ∧ D k = c then .ok (k + 1) else loop D n c k lev

theorem V_none (f i lev : Nat) : V D n (f + 1) none i lev = if n ≤ i then .error false else if D i = 123 ∨ D i = 91 then (if 10000 ≤ lev then .error false else if ws D n (i + 1) < n ∧ D (ws D n (i + 1)) = closer (D i) then .ok (ws D n (i + 1) + 1) else V D n f (some (closer (D i))) (ws D n (i + 1)) lev) else match scal D n i with
    | none => .error false
    | some e => .ok e := rfl
theorem V_some (f : Nat) (c : Int) (j lev : Nat) : V D n (f + 1) (some c) j lev = match pre D n c j with
    | none => .error true
    | some j' => match V D n f none j' (lev + 1) with
      | .error b => .error b
      | .ok e => if ws D n e < n ∧ D (ws D n e) = c then .ok (ws D n e + 1) else if ws D n e < n ∧ D (ws D n e) = 44 then V D n f (some c) (ws D n (ws D n e + 1)) lev else .error true := rfl

theorem val_eq (i lev : Nat) : val D n i lev = if n ≤ i then .error false else if D i = 123 ∨ D i = 91 then (if 10000 ≤ lev then .error false else start D n (closer (D i)) (ws D n (i + 1)) lev) else match scal D n i with
    | none => .error false
    | some e => .ok e := by
  have hw := ws_le D n (i + 1)
  unfold val
  rw [V_none]
  by_cases hn : n ≤ i
  · rw [if_pos hn, if_pos hn]
  · rw [if_neg hn, if_neg hn]
    unfold start loop
    rw [V_fuel D n (2 * n + 2) (2 * n + 3) (some (closer (D i))) (ws D n (i + 1)) lev (by simp only [mu]; omega) (by simp only [mu]; omega)]

theorem loop_eq (c : Int) (j lev : Nat) : loop D n c j lev = match pre D n c j with
    | none => .error true
    | some j' => match val D n j' (lev + 1) with
      | .error b => .error b
      | .ok e => rest D n c (ws D n e) lev := by
  unfold loop
  rw [V_some]
  cases hp : pre D n c j with
  | none => rfl
  | some j' =>
    have e1 := V_fuel D n (2 * n + 2) (2 * n + 3) none j' (lev + 1) (by simp only [mu]; omega) (by simp only [mu]; omega)
    simp only []
    rw [e1]
    unfold val
    cases hv : V D n (2 * n + 3) none j' (lev + 1) with
    | error b => rfl
    | ok e =>
      have e2 := V_fuel D n (2 * n + 2) (2 * n + 3) (some c) (ws D n (ws D n e + 1)) lev (by simp only [mu]; omega) (by simp only [mu]; omega)
      simp only []
      rw [e2]
      rfl

theorem val_n {i lev e : Nat} (h : val D n i lev = .ok e) : i < e ∧ e ≤ n := V_n D n _ _ _ _ _ h

/-- The containers around (innermost first), when the innermost value ended so. -/
def full (dep : Nat) : List Int → Except Bool Nat → Except Bool Nat
  | [], r => r
  | c :: st, r => match r with
    | .error b => .error b
    | .ok e => full dep st (rest D n c (ws D n e) (dep + st.length))

theorem full_error (dep : Nat) (st : List Int) (b : Bool) : full D n dep st (.error b) = .error b := by cases st <;> rfl
theorem full_cons (dep : Nat) (c : Int) (st : List Int) (j j' : Nat) (hp : pre D n c j = some j') : full D n dep st (loop D n c j (dep + st.length)) = full D n dep (c :: st) (val D n j' (dep + (c :: st).length)) := by
  rw [loop_eq, hp]
  simp only [List.length_cons, ← Nat.add_assoc]
  cases hv : val D n j' (dep + st.length + 1) with
  | error b => simp only [full_error]
  | ok e => simp only [full]

/-- At the head of the machine's inner round. -/
def head (first : Bool) (c : Int) (k lev : Nat) : Except Bool Nat := if first = true then start D n c k lev else rest D n c k lev
def cont (first : Bool) (k : Nat) : Option Nat := if first = true then some k else if k < n ∧ D k = 44 then some (ws D n (k + 1)) else none
theorem head_close {first : Bool} {c : Int} {k lev : Nat} (h : k < n ∧ D k = c) : head D n first c k lev = .ok (k + 1) := by
  unfold head start rest
  cases first <;> simp [h]
theorem head_more {first : Bool} {c : Int} {k lev j : Nat} (h : ¬ (k < n ∧ D k = c)) (hc : cont D n first k = some j) : head D n first c k lev = loop D n c j lev := by
  unfold head start rest
  unfold cont at hc
  cases first with
  | true =>
    simp only [if_true] at hc ⊢
    cases hc
    rw [if_neg h]
  | false =>
    by_cases h4 : k < n ∧ D k = 44
    · simp [h4] at hc
      subst hc
      simp only [Bool.false_eq_true, if_false]
      rw [if_neg h, if_pos h4]
    · simp [h4] at hc
theorem head_none {first : Bool} {c : Int} {k lev : Nat} (h : ¬ (k < n ∧ D k = c)) (hc : cont D n first k = none) : head D n first c k lev = .error true := by
  unfold head start rest
  unfold cont at hc
  cases first with
  | true => simp at hc
  | false =>
    by_cases h4 : k < n ∧ D k = 44
    · simp [h4] at hc
    · simp only [Bool.false_eq_true, if_false]
      rw [if_neg h, if_neg h4]
theorem loop_none {c : Int} {j lev : Nat} (h : pre D n c j = none) : loop D n c j lev = .error true := by rw [loop_eq, h]
end
end Go.Proofs.Qxb6616012a.G
