/-
  PLAIN FACTS for LawS1188ARemoveAll: m requests, the j-th of them 'f j', linked in that order. No Go in this text.
-/
import Derived.Test.YbulkxosUnPl
namespace Go.Proofs.Ybulkxos

structure Chain (n m : Nat) (f : Nat → Nat) (hd tl lc : Option Nat) (pv nx : Nat → Option Nat) : Prop where
  inj : ∀ a b, a < m → b < m → f a = f b → a = b
  lt : ∀ a, a < m → f a < n
  hd : hd = if 0 < m then some (f 0) else none
  tl : tl = if 0 < m then some (f (m - 1)) else none
  pv : ∀ j, j < m → pv (f j) = if 0 < j then some (f (j - 1)) else none
  nx : ∀ j, j < m → nx (f j) = if j + 1 < m then some (f (j + 1)) else none
  lc : ∀ q, lc = some q → ∃ j, j < m ∧ q = f j

theorem chain0 (n c : Nat) (hn : 0 < n) : Chain n n (fun j => j) (some 0) (some (n - 1)) (lc0 n c) pv0 (nx0 n) :=
  ⟨fun _ _ _ _ h => h, fun _ h => h, by rw [if_pos hn], by rw [if_pos hn], fun j _ => rfl,
   fun j hj => by
     show (if j < n - 1 then some (j + 1) else none) = _
     by_cases h : j < n - 1
     · rw [if_pos h, if_pos (by omega)]
     · rw [if_neg h, if_neg (by omega)],
   fun q hq => ⟨q, by unfold lc0 at hq; split at hq <;> cases hq; assumption, rfl⟩⟩

/-- one taken out of the order -/
def cut (f : Nat → Nat) (i j : Nat) : Nat := f (if j < i then j else j + 1)

theorem Chain.removed {n m : Nat} {f : Nat → Nat} {hd tl lc : Option Nat} {pv nx : Nat → Option Nat} (h : Chain n m f hd tl lc pv nx) (i : Nat) (hi : i < m) :
    Chain n (m - 1) (cut f i) (if pv (f i) = none then nx (f i) else hd) (if nx (f i) = none then pv (f i) else tl) (if lc = some (f i) then pv (f i) else lc)
      (fun x => if x = f i then none else if nx (f i) = some x then pv (f i) else pv x) (fun x => if x = f i then none else if pv (f i) = some x then nx (f i) else nx x) := by
  have ep := h.pv i hi
  have en := h.nx i hi
  have hx : ∀ j, j < m - 1 → (if j < i then j else j + 1) < m := fun j hj => by split <;> omega
  have hxi : ∀ j, (if j < i then j else j + 1) ≠ i := fun j => by split <;> omega
  have hne : ∀ j, j < m - 1 → cut f i j ≠ f i := fun j hj e => hxi j (h.inj _ _ (hx j hj) hi e)
  refine ⟨?_, ?_, ?_, ?_, ?_, ?_, ?_⟩
  · intro a b ha hb e
    have := h.inj _ _ (hx a ha) (hx b hb) e
    split at this <;> split at this <;> omega
  · intro a ha
    exact h.lt _ (hx a ha)
  · rw [ep, en]
    by_cases h0 : 0 < i
    · simp only [if_pos h0, if_neg (Option.some_ne_none _)]
      rw [h.hd, if_pos (by omega), if_pos (by omega)]
      simp [cut, h0]
    · obtain rfl : i = 0 := by omega
      by_cases h1 : 1 < m
      · simp [cut, h1, show 0 < m - 1 by omega]
      · simp [h1, show ¬ 0 < m - 1 by omega]
  · rw [ep, en]
    by_cases h1 : i + 1 < m
    · simp only [if_pos h1, if_neg (Option.some_ne_none _)]
      rw [h.tl, if_pos (by omega), if_pos (by omega)]
      simp only [cut, if_neg (show ¬ m - 1 - 1 < i by omega)]
      congr 2; omega
    · simp only [if_neg h1, if_true]
      by_cases h0 : 0 < i
      · rw [if_pos h0, if_pos (by omega)]
        simp only [cut, if_pos (show m - 1 - 1 < i by omega)]
        congr 2; omega
      · rw [if_neg h0, if_neg (by omega)]
  · intro j hj
    simp only [if_neg (hne j hj)]
    rw [en, ep]
    have hxj := hx j hj
    have e0 := h.pv _ hxj
    by_cases hji : j < i
    · have hn2 : ¬ (if i + 1 < m then some (f (i + 1)) else none) = some (cut f i j) := by
        intro e
        split at e
        · have := h.inj _ _ (by assumption) hxj (Option.some.inj e)
          rw [if_pos hji] at this
          omega
        · cases e
      rw [if_neg hn2]
      show pv (f (if j < i then j else j + 1)) = _
      rw [e0]
      simp only [if_pos hji, cut]
      by_cases h0 : 0 < j
      · rw [if_pos h0, if_pos h0, if_pos (by omega)]
      · rw [if_neg h0, if_neg h0]
    · by_cases hj2 : j = i
      · subst hj2
        have : (if j + 1 < m then some (f (j + 1)) else none) = some (cut f j j) := by
          rw [if_pos (by omega)]
          simp [cut]
        rw [if_pos this]
        by_cases h0 : 0 < j
        · rw [if_pos h0, if_pos h0]
          simp [cut, show j - 1 < j by omega]
        · rw [if_neg h0, if_neg h0]
      · have hn2 : ¬ (if i + 1 < m then some (f (i + 1)) else none) = some (cut f i j) := by
          intro e
          split at e
          · have := h.inj _ _ (by assumption) hxj (Option.some.inj e)
            rw [if_neg hji] at this
            omega
          · cases e
        rw [if_neg hn2]
        show pv (f (if j < i then j else j + 1)) = _
        rw [e0]
        simp only [if_neg hji, cut]
        rw [if_pos (by omega), if_pos (by omega), if_neg (by omega)]
        congr 2; omega
  · intro j hj
    simp only [if_neg (hne j hj)]
    rw [en, ep]
    have hxj := hx j hj
    have e0 := h.nx _ hxj
    by_cases hji : j < i
    · by_cases hj2 : j + 1 = i
      · have : (if 0 < i then some (f (i - 1)) else none) = some (cut f i j) := by
          rw [if_pos (by omega)]
          simp only [cut, if_pos hji]
          congr 2; omega
        rw [if_pos this]
        by_cases h0 : i + 1 < m
        · rw [if_pos h0, if_pos (by omega)]
          simp only [cut, if_neg (show ¬ j + 1 < i by omega)]
          congr 2; omega
        · rw [if_neg h0, if_neg (by omega)]
      · have hn2 : ¬ (if 0 < i then some (f (i - 1)) else none) = some (cut f i j) := by
          intro e
          rw [if_pos (by omega)] at e
          have := h.inj _ _ (by omega) hxj (Option.some.inj e)
          rw [if_pos hji] at this
          omega
        rw [if_neg hn2]
        show nx (f (if j < i then j else j + 1)) = _
        rw [e0]
        simp only [if_pos hji, cut]
        rw [if_pos (by omega), if_pos (by omega), if_pos (by omega)]
    · have hn2 : ¬ (if 0 < i then some (f (i - 1)) else none) = some (cut f i j) := by
        intro e
        split at e
        · have := h.inj _ _ (by omega) hxj (Option.some.inj e)
          rw [if_neg hji] at this
          omega
        · cases e
      rw [if_neg hn2]
      show nx (f (if j < i then j else j + 1)) = _
      rw [e0]
      simp only [if_neg hji, cut]
      by_cases h0 : j + 1 < m - 1
      · rw [if_pos (by omega), if_pos h0, if_neg (by omega)]
      · rw [if_neg (by omega), if_neg h0]
  · intro q hq
    have back : ∀ j, j < m → j ≠ i → ∃ j', j' < m - 1 ∧ f j = cut f i j' := by
      intro j hj hji
      by_cases hlt : j < i
      · exact ⟨j, by omega, by simp [cut, hlt]⟩
      · exact ⟨j - 1, by omega, by simp only [cut, if_neg (show ¬ j - 1 < i by omega)]; congr 1; omega⟩
    by_cases e : lc = some (f i)
    · rw [if_pos e, ep] at hq
      by_cases h0 : 0 < i
      · rw [if_pos h0] at hq
        cases hq
        exact back (i - 1) (by omega) (by omega)
      · rw [if_neg h0] at hq
        cases hq
    · rw [if_neg e] at hq
      obtain ⟨j, hj, rfl⟩ := h.lc q hq
      exact back j hj (fun x => e (by rw [hq, x]))

theorem Chain.pv_lt {n m : Nat} {f : Nat → Nat} {hd tl lc : Option Nat} {pv nx : Nat → Option Nat} (h : Chain n m f hd tl lc pv nx) (i : Nat) (hi : i < m) : ∀ q, pv (f i) = some q → q < n ∧ q ≠ f i := by
  intro q hq
  rw [h.pv i hi] at hq
  split at hq
  · cases hq
    exact ⟨h.lt _ (by omega), fun e => by have := h.inj _ _ (by omega) hi e; omega⟩
  · cases hq
theorem Chain.nx_lt {n m : Nat} {f : Nat → Nat} {hd tl lc : Option Nat} {pv nx : Nat → Option Nat} (h : Chain n m f hd tl lc pv nx) (i : Nat) (hi : i < m) : ∀ q, nx (f i) = some q → q < n ∧ q ≠ f i := by
  intro q hq
  rw [h.nx i hi] at hq
  split at hq
  · cases hq
    exact ⟨h.lt _ (by omega), fun e => by have := h.inj _ _ (by omega) hi e; omega⟩
  · cases hq
theorem Chain.lc_lt {n m : Nat} {f : Nat → Nat} {hd tl lc : Option Nat} {pv nx : Nat → Option Nat} (h : Chain n m f hd tl lc pv nx) : ∀ q, lc = some q → q < n := by
  intro q hq
  obtain ⟨j, hj, rfl⟩ := h.lc q hq
  exact h.lt j hj
theorem Chain.empty {n : Nat} {f : Nat → Nat} {hd tl lc : Option Nat} {pv nx : Nat → Option Nat} (h : Chain n 0 f hd tl lc pv nx) : hd = none ∧ tl = none ∧ lc = none := by
  refine ⟨by rw [h.hd]; simp, by rw [h.tl]; simp, ?_⟩
  cases hl : lc with
  | none => rfl
  | some q =>
    obtain ⟨j, hj, _⟩ := h.lc q hl
    omega
end Go.Proofs.Ybulkxos
