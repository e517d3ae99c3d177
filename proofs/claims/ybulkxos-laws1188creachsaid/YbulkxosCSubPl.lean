/-
  THE REACHABILITY SUBGRAPH, plainly: what it keeps reaches what the whole graph reaches.
-/
import Derived.Test.YbulkxosCBfs
namespace Go.Proofs.Ybulkxos
set_option linter.unusedVariables false
set_option linter.unusedSimpArgs false

inductive Reach (sc : Nat → List Nat) : Nat → Nat → Prop
  | refl (v : Nat) : Reach sc v v
  | step {v w u : Nat} (h : w ∈ sc v) (r : Reach sc w u) : Reach sc v u

theorem Reach.trans {sc : Nat → List Nat} {a b c : Nat} (h : Reach sc a b) (g : Reach sc b c) : Reach sc a c := by
  induction h with
  | refl _ => exact g
  | step hm _ ih => exact .step hm (ih g)
theorem Reach.one {sc : Nat → List Nat} {a b : Nat} (h : b ∈ sc a) : Reach sc a b := .step h (.refl b)
theorem Reach.mono {sc sc' : Nat → List Nat} {a b : Nat} (h : Reach sc a b) (hs : ∀ v w, w ∈ sc v → w ∈ sc' v) : Reach sc' a b := by
  induction h with
  | refl _ => exact .refl _
  | step hm _ ih => exact .step (hs _ _ hm) ih

/-- 'edge(f, t)' -/
def addE (sc : Nat → List Nat) (f t : Nat) : Nat → List Nat := fun x => if f ≠ t ∧ x = f then sc x ++ [t] else sc x
theorem mem_addE {sc : Nat → List Nat} {f t v w : Nat} : w ∈ addE sc f t v ↔ w ∈ sc v ∨ (f ≠ t ∧ v = f ∧ w = t) := by
  unfold addE
  split
  · rename_i h; simp [h.1, h.2]
  · rename_i h
    constructor
    · exact fun x => .inl x
    · rintro (x | ⟨x, y, _⟩)
      · exact x
      · exact (h ⟨x, y⟩).elim
theorem len_addE (sc : Nat → List Nat) (f t v : Nat) : (addE sc f t v).length ≤ (sc v).length + 1 := by
  unfold addE
  split <;> simp
/-- the readers' edges -/
def addAll (sc : Nat → List Nat) (rs : List Nat) (t : Nat) : Nat → List Nat := rs.foldl (fun s r => addE s r t) sc
theorem addAll_take (sc : Nat → List Nat) (rs : List Nat) (t p : Nat) (hp : p < rs.length) : addAll sc (rs.take (p + 1)) t = addE (addAll sc (rs.take p) t) (rs.getD p 0) t := by
  unfold addAll
  rw [List.take_add_one, List.foldl_append]
  simp [hp, List.getD_eq_getElem?_getD]
theorem mem_addAll {rs : List Nat} {t : Nat} : ∀ {sc : Nat → List Nat} {v w : Nat}, w ∈ addAll sc rs t v ↔ w ∈ sc v ∨ (v ∈ rs ∧ v ≠ t ∧ w = t) := by
  induction rs with
  | nil => intro sc v w; simp [addAll]
  | cons r rs ih =>
    intro sc v w
    show w ∈ addAll (addE sc r t) rs t v ↔ _
    rw [ih, mem_addE]
    constructor
    · rintro ((h | ⟨h1, rfl, rfl⟩) | ⟨h1, h2, h3⟩)
      · exact .inl h
      · exact .inr ⟨by simp, h1, rfl⟩
      · exact .inr ⟨by simp [h1], h2, h3⟩
    · rintro (h | ⟨h1, h2, h3⟩)
      · exact .inl (.inl h)
      · rcases List.mem_cons.1 h1 with rfl | h1
        · exact .inl (.inr ⟨h2, rfl, h3⟩)
        · exact .inr ⟨h1, h2, h3⟩
theorem len_addAll (rs : List Nat) (t v : Nat) : ∀ (sc : Nat → List Nat), (addAll sc rs t v).length ≤ (sc v).length + rs.length := by
  induction rs with
  | nil => intro sc; simp [addAll]
  | cons r rs ih =>
    intro sc
    show (addAll (addE sc r t) rs t v).length ≤ _
    have h1 := ih (addE sc r t)
    have h2 := len_addE sc r t v
    simp
    omega

/-- the edge from the last writer -/
def sc1 (lw : Nat → Int) (sc : Nat → List Nat) (o t : Nat) : Nat → List Nat := if 0 ≤ lw o then addE sc (lw o).toNat t else sc
theorem mem_sc1 {lw : Nat → Int} {sc : Nat → List Nat} {o t v w : Nat} : w ∈ sc1 lw sc o t v ↔ w ∈ sc v ∨ (0 ≤ lw o ∧ (lw o).toNat ≠ t ∧ v = (lw o).toNat ∧ w = t) := by
  unfold sc1
  split
  · rename_i h; rw [mem_addE]; simp [h]
  · rename_i h
    constructor
    · exact fun x => .inl x
    · rintro (x | ⟨x, _⟩)
      · exact x
      · exact (h x).elim
theorem len_sc1 (lw : Nat → Int) (sc : Nat → List Nat) (o t v : Nat) : (sc1 lw sc o t v).length ≤ (sc v).length + 1 := by
  unfold sc1
  split
  · exact len_addE _ _ _ _
  · omega

def LateW (D : Dat) (x i : Nat) : Prop := ∃ i', i ≤ i' ∧ i' < x ∧ D.O i' = D.O i ∧ D.W i' = true

structure RInv (D : Dat) (x : Nat) (lw : Nat → Int) (rd : Nat → List Nat) (sc : Nat → List Nat) : Prop where
  snd : ∀ v w, w ∈ sc v → Ed D v w
  lwok : ∀ o, lw o = -1 ∨ ∃ i, i < x ∧ D.O i = o ∧ D.W i = true ∧ lw o = D.T i
  rdok : ∀ o r, r ∈ rd o → ∃ i, i < x ∧ D.O i = o ∧ D.T i = r
  late : ∀ i, i < x → LateW D x i → 0 ≤ lw (D.O i) ∧ Reach sc (D.T i) (lw (D.O i)).toNat
  read : ∀ i, i < x → ¬ LateW D x i → D.T i ∈ rd (D.O i)
  pairs : ∀ i j, i < j → j < x → D.O i = D.O j → (D.W i = true ∨ D.W j = true) → Reach sc (D.T i) (D.T j)
  rlen : ∀ o, (rd o).length ≤ x
  slen : ∀ v, (sc v).length ≤ x * 1025

theorem RInv.start (D : Dat) : RInv D 0 (fun _ => -1) (fun _ => []) (fun _ => []) :=
  ⟨fun v w h => by simp at h, fun o => .inl rfl, fun o r h => by simp at h, fun i h => absurd h (by omega), fun i h => absurd h (by omega), fun i j _ h => absurd h (by omega), fun o => by simp, fun v => by simp⟩

section
variable {D : Dat} {x : Nat} {lw : Nat → Int} {rd : Nat → List Nat} {sc : Nat → List Nat}

theorem RInv.sc1_snd (h : RInv D x lw rd sc) (hx : x < D.N) : ∀ v w, w ∈ sc1 lw sc (D.O x) (D.T x) v → Ed D v w := by
  intro v w hw
  rcases mem_sc1.1 hw with h1 | ⟨h1, h2, rfl, rfl⟩
  · exact h.snd v w h1
  · rcases h.lwok (D.O x) with e | ⟨i, hi, ho, hwi, e⟩
    · omega
    · rw [e] at h2 ⊢
      exact ⟨i, x, hi, hx, ho, by simpa using h2, .inl hwi, by simp, rfl⟩

theorem RInv.to_x (h : RInv D x lw rd sc) (i : Nat) (hi : i < x) (ho : D.O i = D.O x) (hl : LateW D x i) : Reach (sc1 lw sc (D.O x) (D.T x)) (D.T i) (D.T x) := by
  obtain ⟨h1, h2⟩ := h.late i hi hl
  rw [ho] at h1 h2
  refine (h2.mono (fun v w hw => mem_sc1.2 (.inl hw))).trans ?_
  by_cases e : (lw (D.O x)).toNat = D.T x
  · rw [e]; exact .refl _
  · exact .one (mem_sc1.2 (.inr ⟨h1, e, rfl, rfl⟩))

/-- behind a read -/
theorem RInv.stepR (h : RInv D x lw rd sc) (hx : x < D.N) (hN : D.N ≤ 1024) (hW : D.W x = false) (rd' : Nat → List Nat) (hr : ∀ o, o ≠ D.O x → rd' o = rd o) (hr2 : rd' (D.O x) = rd (D.O x) ∧ D.T x ∈ rd (D.O x) ∨ rd' (D.O x) = rd (D.O x) ++ [D.T x]) :
    RInv D (x + 1) lw rd' (sc1 lw sc (D.O x) (D.T x)) := by
  have hup : ∀ v w, w ∈ sc v → w ∈ sc1 lw sc (D.O x) (D.T x) v := fun v w hw => mem_sc1.2 (.inl hw)
  have hlate : ∀ i, i < x → LateW D (x + 1) i → LateW D x i := fun i hi ⟨i', a, b, c, d⟩ => ⟨i', a, by
    by_cases e : i' = x
    · subst e; rw [hW] at d; cases d
    · omega, c, d⟩
  have hsub : ∀ o r, r ∈ rd o → r ∈ rd' o := fun o r hrr => by
    by_cases e : o = D.O x
    · subst e
      rcases hr2 with ⟨a, _⟩ | a
      · rw [a]; exact hrr
      · rw [a]; simp [hrr]
    · rw [hr o e]; exact hrr
  refine ⟨h.sc1_snd hx, fun o => (h.lwok o).imp id (fun ⟨i, a, b⟩ => ⟨i, by omega, b⟩), ?_, ?_, ?_, ?_, ?_, ?_⟩
  · intro o r hrr
    by_cases e : o = D.O x
    · subst e
      rcases hr2 with ⟨a, _⟩ | a
      · rw [a] at hrr
        obtain ⟨i, b, c⟩ := h.rdok _ r hrr
        exact ⟨i, by omega, c⟩
      · rw [a] at hrr
        rcases List.mem_append.1 hrr with b | b
        · obtain ⟨i, b, c⟩ := h.rdok _ r b
          exact ⟨i, by omega, c⟩
        · simp at b
          exact ⟨x, by omega, rfl, b.symm⟩
    · rw [hr o e] at hrr
      obtain ⟨i, b, c⟩ := h.rdok _ r hrr
      exact ⟨i, by omega, c⟩
  · intro i hi hl
    by_cases e : i = x
    · subst e
      obtain ⟨i', a, b, c, d⟩ := hl
      obtain rfl : i' = i := by omega
      rw [hW] at d; cases d
    · obtain ⟨a, b⟩ := h.late i (by omega) (hlate i (by omega) hl)
      exact ⟨a, b.mono hup⟩
  · intro i hi hl
    by_cases e : i = x
    · subst e
      rcases hr2 with ⟨a, b⟩ | a
      · rw [a]; exact b
      · rw [a]; simp
    · exact hsub _ _ (h.read i (by omega) (fun ⟨i', a, b, c⟩ => hl ⟨i', a, by omega, c⟩))
  · intro i j hij hj ho hw
    by_cases e : j = x
    · subst e
      have hwi : D.W i = true := hw.resolve_right (by rw [hW]; simp)
      exact h.to_x i hij ho ⟨i, Nat.le_refl _, hij, rfl, hwi⟩
    · exact (h.pairs i j hij (by omega) ho hw).mono hup
  · intro o
    have := h.rlen o
    by_cases e : o = D.O x
    · subst e
      rcases hr2 with ⟨a, _⟩ | a
      · rw [a]; omega
      · rw [a]; simp; omega
    · rw [hr o e]; omega
  · intro v
    have h1 := h.slen v
    have h2 := len_sc1 lw sc (D.O x) (D.T x) v
    omega

/-- behind a write -/
theorem RInv.stepW (h : RInv D x lw rd sc) (hx : x < D.N) (hN : D.N ≤ 1024) (hW : D.W x = true) (lw' : Nat → Int) (rd' : Nat → List Nat) (hl1 : ∀ o, o ≠ D.O x → lw' o = lw o) (hl2 : lw' (D.O x) = D.T x) (hr : ∀ o, o ≠ D.O x → rd' o = rd o) (hr2 : rd' (D.O x) = []) :
    RInv D (x + 1) lw' rd' (addAll (sc1 lw sc (D.O x) (D.T x)) (rd (D.O x)) (D.T x)) := by
  have hup1 : ∀ v w, w ∈ sc1 lw sc (D.O x) (D.T x) v → w ∈ addAll (sc1 lw sc (D.O x) (D.T x)) (rd (D.O x)) (D.T x) v := fun v w hw => mem_addAll.2 (.inl hw)
  have hup : ∀ v w, w ∈ sc v → w ∈ addAll (sc1 lw sc (D.O x) (D.T x)) (rd (D.O x)) (D.T x) v := fun v w hw => hup1 v w (mem_sc1.2 (.inl hw))
  have hto : ∀ i, i < x → D.O i = D.O x → Reach (addAll (sc1 lw sc (D.O x) (D.T x)) (rd (D.O x)) (D.T x)) (D.T i) (D.T x) := by
    intro i hi ho
    by_cases hl : LateW D x i
    · exact (h.to_x i hi ho hl).mono hup1
    · have := h.read i hi hl
      rw [ho] at this
      by_cases e : D.T i = D.T x
      · rw [e]; exact .refl _
      · exact .one (mem_addAll.2 (.inr ⟨this, e, rfl⟩))
  refine ⟨?_, ?_, ?_, ?_, ?_, ?_, ?_, ?_⟩
  · intro v w hw
    rcases mem_addAll.1 hw with a | ⟨a, b, rfl⟩
    · exact h.sc1_snd hx v w a
    · obtain ⟨i, c, d, rfl⟩ := h.rdok _ v a
      exact ⟨i, x, c, hx, d, b, .inr hW, rfl, rfl⟩
  · intro o
    by_cases e : o = D.O x
    · subst e
      exact .inr ⟨x, by omega, rfl, hW, hl2⟩
    · rw [hl1 o e]
      exact (h.lwok o).imp id (fun ⟨i, a, b⟩ => ⟨i, by omega, b⟩)
  · intro o r hrr
    by_cases e : o = D.O x
    · subst e; rw [hr2] at hrr; simp at hrr
    · rw [hr o e] at hrr
      obtain ⟨i, b, c⟩ := h.rdok _ r hrr
      exact ⟨i, by omega, c⟩
  · intro i hi hl
    by_cases e : D.O i = D.O x
    · rw [e, hl2]
      refine ⟨by omega, ?_⟩
      rw [show ((D.T x : Int)).toNat = D.T x by omega]
      by_cases e2 : i = x
      · subst e2; exact .refl _
      · exact hto i (by omega) e
    · rw [hl1 _ e]
      have hix : i ≠ x := fun e2 => e (by rw [e2])
      obtain ⟨i', a, b, c, d⟩ := hl
      have hne : i' ≠ x := fun e2 => by subst e2; exact e c.symm
      obtain ⟨f, g⟩ := h.late i (by omega) ⟨i', a, by omega, c, d⟩
      exact ⟨f, g.mono hup⟩
  · intro i hi hl
    by_cases e : D.O i = D.O x
    · exact (hl ⟨x, by omega, by omega, e.symm, hW⟩).elim
    · rw [hr _ e]
      have hix : i ≠ x := fun e2 => e (by rw [e2])
      exact h.read i (by omega) (fun ⟨i', a, b, c⟩ => hl ⟨i', a, by omega, c⟩)
  · intro i j hij hj ho hw
    by_cases e : j = x
    · subst e
      exact hto i hij ho
    · exact (h.pairs i j hij (by omega) ho hw).mono hup
  · intro o
    have := h.rlen o
    by_cases e : o = D.O x
    · subst e; rw [hr2]; simp
    · rw [hr o e]; omega
  · intro v
    have h1 := h.slen v
    have h2 := len_sc1 lw sc (D.O x) (D.T x) v
    have h3 := len_addAll (rd (D.O x)) (D.T x) v (sc1 lw sc (D.O x) (D.T x))
    have h4 := h.rlen (D.O x)
    omega
end

/-- what is handed back -/
structure Sub (D : Dat) (sc : Nat → List Nat) : Prop where
  snd : ∀ v w, w ∈ sc v → Ed D v w
  cpl : ∀ v w, Ed D v w → Reach sc v w
  slen : ∀ v, (sc v).length ≤ 2000000

theorem RInv.done {D : Dat} {lw : Nat → Int} {rd sc : Nat → List Nat} (h : RInv D D.N lw rd sc) (hN : D.N ≤ 1024) : Sub D sc :=
  ⟨h.snd, fun v w ⟨i, j, h1, h2, h3, h4, h5, h6, h7⟩ => by rw [← h6, ← h7]; exact h.pairs i j h1 h2 h3 h5, fun v => by
    have := h.slen v
    have : D.N * 1025 ≤ 1024 * 1025 := Nat.mul_le_mul_right _ hN
    omega⟩
end Go.Proofs.Ybulkxos
