/-
  LawS1188CReach's ROUNDS, plainly.
-/
import Derived.Test.YbulkxosCSubPl
namespace Go.Proofs.Ybulkxos
set_option linter.unusedVariables false
set_option linter.unusedSimpArgs false

def bit (b : Bool) : Nat := if b then 1 else 0
def cntB (r : Nat → Bool) : Nat := bit (r 0) + bit (r 1) + bit (r 2) + bit (r 3) + bit (r 4) + bit (r 5) + bit (r 6) + bit (r 7)
theorem bit_le (b : Bool) : bit b ≤ 1 := by cases b <;> decide
theorem bit_mono {a b : Bool} (h : a = true → b = true) : bit a ≤ bit b := by cases a <;> cases b <;> simp_all [bit]
theorem cntB_le (r : Nat → Bool) : cntB r ≤ 8 := by
  have := bit_le (r 0); have := bit_le (r 1); have := bit_le (r 2); have := bit_le (r 3); have := bit_le (r 4); have := bit_le (r 5); have := bit_le (r 6); have := bit_le (r 7)
  unfold cntB; omega
theorem cntB_pos {r : Nat → Bool} {t : Nat} (ht : t < 8) (h : r t = true) : 1 ≤ cntB r := by
  have : bit (r t) = 1 := by rw [h]; rfl
  obtain rfl | rfl | rfl | rfl | rfl | rfl | rfl | rfl : t = 0 ∨ t = 1 ∨ t = 2 ∨ t = 3 ∨ t = 4 ∨ t = 5 ∨ t = 6 ∨ t = 7 := by omega
  all_goals (unfold cntB; omega)
theorem cntB_lt {r0 r : Nat → Bool} (hm : ∀ v, v < 8 → r0 v = true → r v = true) {v : Nat} (hv : v < 8) (h0 : r0 v = false) (h1 : r v = true) : cntB r0 + 1 ≤ cntB r := by
  have m : ∀ v, v < 8 → bit (r0 v) ≤ bit (r v) := fun v hv => bit_mono (hm v hv)
  have := m 0 (by omega); have := m 1 (by omega); have := m 2 (by omega); have := m 3 (by omega); have := m 4 (by omega); have := m 5 (by omega); have := m 6 (by omega); have := m 7 (by omega)
  have e0 : bit (r0 v) = 0 := by rw [h0]; rfl
  have e1 : bit (r v) = 1 := by rw [h1]; rfl
  obtain rfl | rfl | rfl | rfl | rfl | rfl | rfl | rfl : v = 0 ∨ v = 1 ∨ v = 2 ∨ v = 3 ∨ v = 4 ∨ v = 5 ∨ v = 6 ∨ v = 7 := by omega
  all_goals (unfold cntB; omega)

def Closed (sc : Nat → List Nat) (r : Nat → Bool) : Prop := ∀ v, v < 8 → ∀ w ∈ sc v, r w = true → r v = true

/-- AT THE HEAD OF ROUND k -/
structure Rd (sc : Nat → List Nat) (g : Nat → Int) (tg k : Nat) (r : Nat → Bool) : Prop where
  snd : ∀ v, v < 8 → r v = true → 0 ≤ g v
  tgt : r tg = true
  far : Closed sc r ∨ k + 1 ≤ cntB r

/-- in a round that began with r0, v rows done, p of row v's entries -/
structure RdIn (sc : Nat → List Nat) (g : Nat → Int) (tg : Nat) (r0 r : Nat → Bool) (v p : Nat) : Prop where
  snd : ∀ x, x < 8 → r x = true → 0 ≤ g x
  up : ∀ x, x < 8 → r0 x = true → r x = true
  fix : Closed sc r0 → ∀ x, x < 8 → r x = r0 x
  rows : ∀ x, x < v → ∀ w ∈ sc x, r0 w = true → r x = true
  cur : ∀ i, i < p → ∀ w, (sc v)[i]? = some w → r0 w = true → r v = true

theorem Rd.start (sc : Nat → List Nat) (g : Nat → Int) (tg : Nat) (htg : tg < 8) (h0 : g tg = 0) : Rd sc g tg 0 (fun x => decide (x = tg)) :=
  ⟨fun v _ h => by simp at h; subst h; omega, by simp, .inr (cntB_pos htg (by simp))⟩
theorem Rd.inn {sc : Nat → List Nat} {g : Nat → Int} {tg k : Nat} {r : Nat → Bool} (h : Rd sc g tg k r) : RdIn sc g tg r r 0 0 :=
  ⟨h.snd, fun _ _ x => x, fun _ _ _ => rfl, fun x hx => absurd hx (by omega), fun i hi => absurd hi (by omega)⟩
theorem RdIn.out {sc : Nat → List Nat} {g : Nat → Int} {tg k : Nat} {r0 r : Nat → Bool} (h : RdIn sc g tg r0 r 8 0) (h0 : Rd sc g tg k r0) (htg : tg < 8) (hw : ∀ v w, v < 8 → w ∈ sc v → w < 8) : Rd sc g tg (k + 1) r := by
  refine ⟨h.snd, h.up tg htg h0.tgt, ?_⟩
  by_cases e : ∀ x, x < 8 → r x = r0 x
  · left
    intro v hv w hm hr
    refine h.rows v hv w hm ?_
    rw [← e w (hw v w hv hm)]; exact hr
  · right
    have : ∃ x, x < 8 ∧ r x ≠ r0 x := by
      apply Classical.byContradiction
      intro hn
      exact e (fun x hx => Classical.byContradiction (fun hne => hn ⟨x, hx, hne⟩))
    obtain ⟨x, hx, hne⟩ := this
    have h1 : r0 x = false := by
      cases hr0 : r0 x with
      | false => rfl
      | true => exact (hne (by rw [hr0]; exact h.up x hx hr0)).elim
    have h2 : r x = true := by
      cases hr : r x with
      | true => rfl
      | false => exact (hne (by rw [hr, h1])).elim
    have h3 := cntB_lt (h.up) hx h1 h2
    rcases h0.far with hc | hc
    · exact (hne (h.fix hc x hx)).elim
    · omega
theorem RdIn.row {sc : Nat → List Nat} {g : Nat → Int} {tg v : Nat} {r0 r : Nat → Bool} (h : RdIn sc g tg r0 r v (sc v).length) : RdIn sc g tg r0 r (v + 1) 0 := by
  refine ⟨h.snd, h.up, h.fix, fun x hx w hm hr => ?_, fun i hi => absurd hi (by omega)⟩
  by_cases e : x = v
  · subst e
    obtain ⟨i, hi, rfl⟩ := List.getElem_of_mem hm
    exact h.cur i hi _ (by simp [hi]) hr
  · exact h.rows x (by omega) w hm hr
theorem RdIn.no {sc : Nat → List Nat} {g : Nat → Int} {tg v p w : Nat} {r0 r : Nat → Bool} (h : RdIn sc g tg r0 r v p) (hp : (sc v)[p]? = some w) (hw : w < 8) (hr : r w = false) : RdIn sc g tg r0 r v (p + 1) := by
  refine ⟨h.snd, h.up, h.fix, h.rows, fun i hi w' hi2 hr2 => ?_⟩
  by_cases e : i = p
  · subst e
    rw [hp] at hi2
    cases hi2
    have := h.up w hw hr2
    rw [hr] at this; cases this
  · exact h.cur i (by omega) w' hi2 hr2
theorem RdIn.yes {D : Dat} {sc : Nat → List Nat} {g : Nat → Int} {tg v p w : Nat} {r0 r : Nat → Bool} (h : RdIn sc g tg r0 r v p) (hG : Good D tg g) (hs : Sub D sc) (hv : v < 8) (hp : (sc v)[p]? = some w) (hw : w < 8) (hr : r w = true) : RdIn sc g tg r0 (fun x => if x = v then true else r x) v (p + 1) := by
  have hm : w ∈ sc v := List.mem_of_getElem? hp
  refine ⟨fun x hx hxr => ?_, fun x hx hx0 => ?_, fun hc x hx => ?_, fun x hx w' hm' hr' => ?_, fun i hi w' hi2 hr2 => by simp⟩
  · by_cases e : x = v
    · subst e
      exact (hG.fwd x w hv hw (hs.snd x w hm) (h.snd w hw hr)).1
    · simp [e] at hxr; exact h.snd x hx hxr
  · by_cases e : x = v
    · simp [e]
    · simp [e]; exact h.up x hx hx0
  · by_cases e : x = v
    · subst e
      simp
      refine hc x hv w hm ?_
      rw [← h.fix hc w hw]; exact hr
    · simp [e]; exact h.fix hc x hx
  · by_cases e : x = v
    · simp [e]
    · simp [e]; exact h.rows x hx w' hm' hr'

/-- AT THE END -/
theorem Rd.done {D : Dat} {sc : Nat → List Nat} {g : Nat → Int} {tg : Nat} {r : Nat → Bool} (h : Rd sc g tg 8 r) (hG : Good D tg g) (hs : Sub D sc) (he : ∀ v w, Ed D v w → v < 8 ∧ w < 8) (v : Nat) (hv : v < 8) : r v = true ↔ 0 ≤ g v := by
  have hc : Closed sc r := by
    rcases h.far with a | a
    · exact a
    · have := cntB_le r; omega
  have hcr : ∀ a b, Reach sc a b → r b = true → r a = true := by
    intro a b hab
    induction hab with
    | refl _ => exact fun x => x
    | step hm _ ih =>
      intro hb
      exact hc _ (he _ _ (hs.snd _ _ hm)).1 _ hm (ih hb)
  constructor
  · exact h.snd v hv
  · have key : ∀ n : Nat, ∀ v, v < 8 → g v = n → r v = true := by
      intro n
      induction n with
      | zero =>
        intro v hv e
        rw [hG.base.zero v hv (by simpa using e)]
        exact h.tgt
      | succ n ih =>
        intro v hv e
        obtain ⟨u, hu, hed, hgu⟩ := hG.base.back v hv (by omega)
        exact hcr v u (hs.cpl v u hed) (ih u hu (by omega))
    intro hg
    obtain ⟨n, hn⟩ := Int.eq_ofNat_of_zero_le hg
    exact key n v hv hn
end Go.Proofs.Ybulkxos
