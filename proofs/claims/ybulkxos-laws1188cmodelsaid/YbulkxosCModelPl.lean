/-
  THE MODEL's PLAIN PART: the pairs' matrix; the layered search says what a good distance says.
-/
import Derived.Test.YbulkxosCDist
namespace Go.Proofs.Ybulkxos
open Go.RowKit
set_option linter.unusedVariables false
set_option linter.unusedSimpArgs false
open Classical

def cond (D : Dat) (i j : Nat) : Prop := D.O i = D.O j ∧ D.T i ≠ D.T j ∧ (D.W i = true ∨ D.W j = true)

/-- the pairs seen ahead of (i, j) -/
def EdP (D : Dat) (i j v u : Nat) : Prop := ∃ i' j', i' < j' ∧ j' < D.N ∧ cond D i' j' ∧ D.T i' = v ∧ D.T j' = u ∧ (i' < i ∨ (i' = i ∧ j' < j))

theorem EdP.next {D : Dat} {i : Nat} (v u : Nat) : EdP D (i + 1) (i + 1 + 1) v u ↔ EdP D i D.N v u := by
  constructor
  · rintro ⟨i', j', h1, h2, h3, h4, h5, h6⟩
    exact ⟨i', j', h1, h2, h3, h4, h5, by omega⟩
  · rintro ⟨i', j', h1, h2, h3, h4, h5, h6⟩
    exact ⟨i', j', h1, h2, h3, h4, h5, by omega⟩
theorem EdP.start {D : Dat} (v u : Nat) : ¬ EdP D 0 1 v u := by
  rintro ⟨i', j', h1, h2, h3, h4, h5, h6⟩
  omega
theorem EdP.step {D : Dat} {i j : Nat} (hij : i < j) (hj : j < D.N) (v u : Nat) : EdP D i (j + 1) v u ↔ EdP D i j v u ∨ (cond D i j ∧ D.T i = v ∧ D.T j = u) := by
  constructor
  · rintro ⟨i', j', h1, h2, h3, h4, h5, h6⟩
    by_cases e : i' = i ∧ j' = j
    · obtain ⟨rfl, rfl⟩ := e
      exact .inr ⟨h3, h4, h5⟩
    · exact .inl ⟨i', j', h1, h2, h3, h4, h5, by omega⟩
  · rintro (⟨i', j', h1, h2, h3, h4, h5, h6⟩ | ⟨h3, h4, h5⟩)
    · exact ⟨i', j', h1, h2, h3, h4, h5, by omega⟩
    · exact ⟨i, j, hij, hj, h3, h4, h5, by omega⟩
theorem EdP.done {D : Dat} {j : Nat} (v u : Nat) : EdP D D.N j v u ↔ Ed D v u := by
  constructor
  · rintro ⟨i', j', h1, h2, ⟨h3, h3', h3''⟩, h4, h5, h6⟩
    exact ⟨i', j', h1, h2, h3, h3', h3'', h4, h5⟩
  · rintro ⟨i', j', h1, h2, h3, h3', h3'', h4, h5⟩
    exact ⟨i', j', h1, h2, ⟨h3, h3', h3''⟩, h4, h5, by omega⟩

/-- the matrix in memory -/
noncomputable def edgeF (D : Dat) (i j c : Nat) : Value := .bool (decide (EdP D i j (c / 8) (c % 8)))

/-- what the first d layers say -/
def lay (g : Nat → Int) (d : Int) (x : Nat) : Int := if 0 ≤ g x ∧ g x ≤ d then g x else -1
def lays (g : Nat → Int) (d : Int) (v x : Nat) : Int := if x < v then lay g d x else lay g (d - 1) x

theorem lay_start {D : Dat} {tg : Nat} {g : Nat → Int} (h : Good D tg g) (x : Nat) (hx : x < 8) : lay g 0 x = if x = tg then 0 else -1 := by
  unfold lay
  by_cases e : x = tg
  · subst e
    rw [if_pos rfl, h.base.tg0]; rfl
  · rw [if_neg e, if_neg]
    rintro ⟨h1, h2⟩
    exact e (h.base.zero x hx (by omega))
theorem lay_end {D : Dat} {tg : Nat} {g : Nat → Int} (h : Good D tg g) (x : Nat) (hx : x < 8) : lay g 8 x = g x := by
  unfold lay
  have h1 := h.base.lo x hx
  have h2 := h.hi x hx
  split <;> omega

/-- d - 1 stands at w when g says so -/
theorem lays_eq (g : Nat → Int) (d : Int) (v w : Nat) (hd : 1 ≤ d) : lays g d v w = d - 1 ↔ g w = d - 1 := by
  unfold lays lay
  split <;> split <;> omega

theorem lays_none {D : Dat} {tg : Nat} {g : Nat → Int} (h : Good D tg g) {d : Int} {v : Nat} (hv : v < 8) (hd : 1 ≤ d) (h0 : lays g d v v = -1) (hn : ∀ w, w < 8 → ¬ (Ed D v w ∧ lays g d v w = d - 1)) : lay g d v = -1 := by
  have h1 : lay g (d - 1) v = -1 := by unfold lays at h0; rwa [if_neg (by omega)] at h0
  unfold lay at h1 ⊢
  rw [if_neg]
  rintro ⟨a, b⟩
  by_cases e : 0 ≤ g v ∧ g v ≤ d - 1
  · rw [if_pos e] at h1; omega
  · obtain ⟨u, hu, he, hg⟩ := h.base.back v hv (by omega)
    exact hn u hu ⟨he, (lays_eq g d v u hd).2 (by omega)⟩

theorem lays_some {D : Dat} {tg : Nat} {g : Nat → Int} (h : Good D tg g) {d : Int} {v w : Nat} (hv : v < 8) (hw : w < 8) (hd : 1 ≤ d) (h0 : lays g d v v = -1) (he : Ed D v w) (hg : lays g d v w = d - 1) : lay g d v = d := by
  have h1 : lay g (d - 1) v = -1 := by unfold lays at h0; rwa [if_neg (by omega)] at h0
  have h2 := (lays_eq g d v w hd).1 hg
  obtain ⟨a, b⟩ := h.fwd v w hv hw he (by omega)
  unfold lay at h1 ⊢
  by_cases e : 0 ≤ g v ∧ g v ≤ d - 1
  · rw [if_pos e] at h1; omega
  · rw [if_pos (by omega)]; omega

theorem lays_keep {g : Nat → Int} {d : Int} {v : Nat} (hd : 1 ≤ d) (h0 : lays g d v v ≠ -1) : lay g d v = lays g d v v := by
  unfold lays at h0 ⊢
  rw [if_neg (by omega)] at h0 ⊢
  unfold lay at h0 ⊢
  split at h0
  · rw [if_pos (by omega), if_pos (by omega)]
  · omega

theorem lays_step {g : Nat → Int} {d : Int} {v x : Nat} : lays g d (v + 1) x = if x = v then lay g d v else lays g d v x := by
  unfold lays
  by_cases e : x = v
  · subst e; simp
  · rw [if_neg e]
    by_cases e2 : x < v
    · rw [if_pos e2, if_pos (by omega)]
    · rw [if_neg e2, if_neg (by omega)]
end Go.Proofs.Ybulkxos
