/-
  PLAIN FACTS: the places of chosen numbers in a row 0 .. n-1; the data of the accesses. No Go in this text.
-/
namespace Go.Proofs.Ybulkxos
set_option linter.unusedSimpArgs false

def sel (p : Nat → Bool) (n : Nat) : List Nat := (List.range n).filter p
def idx (p : Nat → Bool) (n : Nat) : Nat := (sel p n).length

theorem sel_succ (p : Nat → Bool) (n : Nat) : sel p (n + 1) = if p n then sel p n ++ [n] else sel p n := by
  unfold sel
  rw [List.range_succ, List.filter_append]
  by_cases h : p n = true
  · simp [h, List.filter_cons]
  · simp [h, List.filter_cons]
theorem idx_zero (p : Nat → Bool) : idx p 0 = 0 := rfl
theorem idx_succ (p : Nat → Bool) (n : Nat) : idx p (n + 1) = if p n then idx p n + 1 else idx p n := by
  unfold idx
  rw [sel_succ]
  split <;> simp
theorem idx_le (p : Nat → Bool) (n : Nat) : idx p n ≤ n := by
  induction n with
  | zero => exact Nat.le_refl _
  | succ n ih => rw [idx_succ]; split <;> omega
theorem idx_mono (p : Nat → Bool) {a b : Nat} (h : a ≤ b) : idx p a ≤ idx p b := by
  induction b with
  | zero =>
    have e : a = 0 := by omega
    subst e
    exact Nat.le_refl _
  | succ b ih =>
    by_cases e : a = b + 1
    · subst e; exact Nat.le_refl _
    · have := ih (by omega)
      rw [idx_succ]; split <;> omega
theorem idx_lt (p : Nat → Bool) {a b : Nat} (hp : p a = true) (h : a < b) : idx p a < idx p b := by
  have h1 : idx p (a + 1) = idx p a + 1 := by rw [idx_succ, if_pos hp]
  have h2 := idx_mono p (a := a + 1) (b := b) h
  omega
theorem sel_get (p : Nat → Bool) {x n : Nat} (hp : p x = true) (h : x < n) : (sel p n)[idx p x]? = some x := by
  induction n with
  | zero => omega
  | succ n ih =>
    rw [sel_succ]
    by_cases e : x = n
    · subst e
      rw [if_pos hp]
      unfold idx
      rw [List.getElem?_append_right (Nat.le_refl _)]
      simp
    · have h1 := ih (by omega)
      by_cases hq : p n = true
      · rw [if_pos hq, List.getElem?_append_left (idx_lt p hp (by omega))]
        exact h1
      · rw [if_neg hq]; exact h1
theorem sel_of_get (p : Nat → Bool) {x n j : Nat} (h : (sel p n)[j]? = some x) : x < n ∧ p x = true ∧ j = idx p x := by
  induction n with
  | zero => simp [sel] at h
  | succ n ih =>
    rw [sel_succ] at h
    by_cases hq : p n = true
    · rw [if_pos hq] at h
      by_cases hj : j < (sel p n).length
      · rw [List.getElem?_append_left hj] at h
        obtain ⟨h1, h2, h3⟩ := ih h
        exact ⟨by omega, h2, h3⟩
      · rw [List.getElem?_append_right (by omega)] at h
        have hz : j - (sel p n).length = 0 := by
          rcases Nat.eq_zero_or_pos (j - (sel p n).length) with g | g
          · exact g
          · rw [List.getElem?_eq_none (by simp; omega)] at h
            cases h
        rw [hz] at h
        simp at h
        subst h
        exact ⟨by omega, hq, by unfold idx; omega⟩
    · rw [if_neg hq] at h
      obtain ⟨h1, h2, h3⟩ := ih h
      exact ⟨by omega, h2, h3⟩
/-- the j-th chosen number -/
def nth (p : Nat → Bool) (n j : Nat) : Nat := (sel p n).getD j 0
theorem nth_ok (p : Nat → Bool) {n j : Nat} (h : j < idx p n) : nth p n j < n ∧ p (nth p n j) = true ∧ j = idx p (nth p n j) := by
  have e : (sel p n)[j]? = some (nth p n j) := by
    unfold nth
    rw [List.getD_eq_getElem?_getD, List.getElem?_eq_getElem h]
    rfl
  exact sel_of_get p e
theorem nth_idx (p : Nat → Bool) {x n : Nat} (hp : p x = true) (h : x < n) : nth p n (idx p x) = x := by
  unfold nth
  rw [List.getD_eq_getElem?_getD, sel_get p hp h]
  rfl
theorem nth_old (p : Nat → Bool) {n j : Nat} (h : j < idx p n) : nth p (n + 1) j = nth p n j := by
  unfold nth
  rw [sel_succ]
  split
  · rw [List.getD_eq_getElem?_getD, List.getD_eq_getElem?_getD, List.getElem?_append_left h]
  · rfl

/-- the data of the accesses: transaction, object, write -/
structure Dat where
  T : Nat → Nat
  O : Nat → Nat
  W : Nat → Bool
  N : Nat
namespace Dat
/-- which accesses list k of object o holds; which are transaction t's -/
def inL (D : Dat) (k o : Nat) (i : Nat) : Bool := decide (D.O i = o) && (decide (k = 0) || D.W i)
def inT (D : Dat) (t : Nat) (i : Nat) : Bool := decide (D.T i = t)
/-- the place of access x in its object's list k -/
def plc (D : Dat) (k x : Nat) : Nat := idx (D.inL k (D.O x)) x
def len (D : Dat) (k o : Nat) : Nat := idx (D.inL k o) D.N
end Dat
end Go.Proofs.Ybulkxos
