/-
  reachability's MEMORY: eight successor lists, four lists of readers, the last writers.
-/
import Derived.Test.YbulkxosCFam
import Derived.Test.YbulkxosCSubPl
namespace Go.Proofs.Ybulkxos
open Go.RowKit
set_option linter.unusedVariables false
set_option linter.unusedSimpArgs false

structure RS (w0 w : World) (lw : Nat → Int) (ls : Nat → List Nat) (val : Nat → Value) : Prop where
  bel : Below w0.heap.size w0 w
  size : w0.heap.size + 4 ≤ w.heap.size
  sr : w.rowIs w0.heap.size 50 8 (fun v => val v)
  sv : w.rowIs (w0.heap.size + 1) 55 1 (fun _ => .slice (some ⟨w0.heap.size, 0, none⟩) 8 8)
  lr : w.rowIs (w0.heap.size + 2) 21 4 (fun o => .int .i32 (lw o))
  rr : w.rowIs (w0.heap.size + 3) 50 4 (fun o => val (8 + o))
  own : ∀ s, s < 12 → w.ownsRow (w0.heap.size + 4) 21 1 (val s) (ls s).length (ints (ls s))
  inj : ∀ s s' g, s < 12 → s' < 12 → (val s).ownBlock = some g → (val s').ownBlock = some g → s = s'

namespace RS
variable {w0 w : World} {lw : Nat → Int} {ls : Nat → List Nat} {val : Nat → Value}

theorem keep {w' : World} (h : RS w0 w lw ls val) (hb : Below w.heap.size w w') : RS w0 w' lw ls val :=
  ⟨h.bel.trans (hb.mono (by have := h.size; omega)), Nat.le_trans h.size hb.size, Below.row' hb h.sr, Below.row' hb h.sv, Below.row' hb h.lr, Below.row' hb h.rr,
    fun s hs => own_of_block (h.own s hs) (fun g hg => hb.block g (own_lt (h.own s hs) hg).2.1), h.inj⟩
theorem alloc (h : RS w0 w lw ls val) (o : Obj) : RS w0 (w.alloc o) lw ls val := h.keep ((Below.refl _ _).alloc (Nat.le_refl _) _)
theorem drewN (h : RS w0 w lw ls val) (n : Nat) : RS w0 (w.drewN n) lw ls val := h.keep ⟨rfl, rfl, rfl, Nat.le_refl _, fun _ _ => rfl⟩
theorem drew (h : RS w0 w lw ls val) : RS w0 w.drew lw ls val := h.drewN 1
theorem congr {lw' : Nat → Int} {ls' : Nat → List Nat} (h : RS w0 w lw ls val) (h1 : ∀ o, o < 4 → lw' o = lw o) (h2 : ∀ s, s < 12 → ls' s = ls s) : RS w0 w lw' ls' val :=
  ⟨h.bel, h.size, h.sr, h.sv, h.lr.congr (fun o ho => by rw [h1 o ho]), h.rr, fun s hs => by rw [h2 s hs]; exact h.own s hs, h.inj⟩

theorem own_ge (h : RS w0 w lw ls val) (s : Nat) (hs : s < 12) : ∀ g, (val s).ownBlock = some g → w0.heap.size + 4 ≤ g := fun g hg => (own_lt (h.own s hs) hg).1
theorem far (h : RS w0 w lw ls val) {b t : Nat} {cs : Array Value} {fr : Nat × Nat} (hb : w.heap[b]? = some (.cells cs t fr)) (ht : t ≠ 21) (s : Nat) (hs : s < 12) : some b ≠ (val s).ownBlock := fun e => by
  obtain ⟨_, _, cur, h3⟩ := own_lt (h.own s hs) e.symm
  rw [hb] at h3
  cases h3
  exact ht rfl

theorem hdrs_of (h : RS w0 w lw ls val) {w2 : World} {row : Option Nat} (hg : w.grownBy w2 row) (hr : ∀ g, row = some g → w0.heap.size + 4 ≤ g) : w2.rowIs w0.heap.size 50 8 (fun v => val v) ∧ w2.rowIs (w0.heap.size + 1) 55 1 (fun _ => .slice (some ⟨w0.heap.size, 0, none⟩) 8 8) ∧ w2.rowIs (w0.heap.size + 2) 21 4 (fun o => .int .i32 (lw o)) ∧ w2.rowIs (w0.heap.size + 3) 50 4 (fun o => val (8 + o)) := by
  have hsz := h.size
  have up : ∀ {b t n : Nat} {f : Nat → Value}, b < w0.heap.size + 4 → w.rowIs b t n f → w2.rowIs b t n f := fun hb hr' => hr'.of_block (hg.block _ (by omega) (fun e => by have := hr _ e.symm; omega))
  exact ⟨up (by omega) h.sr, up (by omega) h.sv, up (by omega) h.lr, up (by omega) h.rr⟩

/-- slot s gets the value v, and the row that it owns is what it was, or new -/
theorem put {w2 : World} (h : RS w0 w lw ls val) (s hb ho : Nat) (hs : s < 12) (hh : (s < 8 ∧ hb = w0.heap.size ∧ ho = s) ∨ (8 ≤ s ∧ hb = w0.heap.size + 3 ∧ s = 8 + ho)) (l : List Nat) (v : Value)
    (hown : w2.ownsRow (w0.heap.size + 4) 21 1 v l.length (ints l)) (hg : w.grownBy w2 (val s).ownBlock) (hat : v.ownBlock = none ∨ v.ownBlock = (val s).ownBlock ∨ v.ownBlock = some w.heap.size ∨ ∃ g, v.ownBlock = some g ∧ w.heap.size ≤ g) :
    RS w0 (w2.setCell ⟨hb, ho, none⟩ v) lw (putV ls s l) (putV val s v) := by
  have hsz := h.size
  have hsz2 := hg.size
  obtain ⟨q1, q2, q3, q4⟩ := h.hdrs_of hg (h.own_ge s hs)
  have hbR : w0.heap.size ≤ hb ∧ hb < w0.heap.size + 4 := by omega
  have hblk : ∀ k, k < w0.heap.size → w2.heap[k]? = w.heap[k]? := fun k hk => hg.block k (by omega) (fun e => by have := h.own_ge s hs _ e.symm; omega)
  have hset : ∀ k, w0.heap.size + 4 ≤ k → (w2.setCell ⟨hb, ho, none⟩ v).heap[k]? = w2.heap[k]? := fun k hk => Deep.blk_setCell_other _ _ _ _ (by show k ≠ hb; omega)
  have hother : ∀ s', s' < 12 → s' ≠ s → ∀ k, (val s').ownBlock = some k → some k ≠ (val s).ownBlock := fun s' hs' hn k hk e => hn (h.inj s' s k hs' hs hk e.symm)
  refine ⟨(h.bel.trans ⟨hg.os, hg.tape, hg.output, hg.size, hblk⟩).setCell (by exact hbR.1) _, by simp; omega, ?_, ?_, ?_, ?_, ?_, ?_⟩
  · by_cases e : hb = w0.heap.size
    · subst e
      refine (q1.set ho v).congr (fun j hj => ?_)
      by_cases e2 : j = ho
      · rw [if_pos e2]; subst e2; obtain rfl : j = s := by omega
        rw [putV_same]
      · rw [if_neg e2, putV_other _ _ (by omega)]
    · exact (q1.setOther (by show w0.heap.size ≠ hb; omega) _).congr (fun j hj => by rw [putV_other _ _ (by omega)])
  · exact q2.setOther (by show w0.heap.size + 1 ≠ hb; omega) _
  · exact q3.setOther (by show w0.heap.size + 2 ≠ hb; omega) _
  · by_cases e : hb = w0.heap.size + 3
    · subst e
      refine (q4.set ho v).congr (fun j hj => ?_)
      by_cases e2 : j = ho
      · rw [if_pos e2]; subst e2; obtain rfl : s = 8 + j := by omega
        rw [putV_same]
      · rw [if_neg e2, putV_other _ _ (by omega)]
    · exact (q4.setOther (by show w0.heap.size + 3 ≠ hb; omega) _).congr (fun j hj => by rw [putV_other _ _ (by omega)])
  · intro s' hs'
    by_cases e : s' = s
    · subst e
      rw [putV_same, putV_same]
      exact own_of_block (w := w2) hown (fun k hk => hset k (own_lt hown hk).1)
    · rw [putV_other _ _ e, putV_other _ _ e]
      refine own_of_block (h.own s' hs') (fun k hk => ?_)
      obtain ⟨a1, a2, _⟩ := own_lt (h.own s' hs') hk
      rw [hset k a1, hg.block k a2 (hother s' hs' e k hk)]
  · have key : ∀ s', s' < 12 → s' ≠ s → ∀ g, (val s').ownBlock = some g → v.ownBlock = some g → False := fun s' hs' hn g hk hv => by
      have hlt := (own_lt (h.own s' hs') hk).2.1
      rcases hat with e | e | e | ⟨g', e, hge⟩
      · rw [hv] at e; cases e
      · exact hother s' hs' hn g hk (by rw [← e, hv])
      · rw [hv] at e; cases e; omega
      · rw [hv] at e; cases e; omega
    intro s1 s2 k h1 h2 q1 q2
    by_cases e1 : s1 = s
    · by_cases e2 : s2 = s
      · omega
      · rw [e1, putV_same] at q1
        rw [putV_other _ _ e2] at q2
        exact (key s2 h2 e2 k q2 q1).elim
    · by_cases e2 : s2 = s
      · rw [e2, putV_same] at q2
        rw [putV_other _ _ e1] at q1
        exact (key s1 h1 e1 k q1 q2).elim
      · rw [putV_other _ _ e1] at q1
        rw [putV_other _ _ e2] at q2
        exact h.inj s1 s2 k h1 h2 q1 q2

/-- lastWriter[o] = t -/
theorem setLw (h : RS w0 w lw ls val) (o : Nat) (t : Int) : RS w0 (w.setCell ⟨w0.heap.size + 2, o, none⟩ (.int .i32 t)) (putV lw o t) ls val := by
  have hsz := h.size
  refine ⟨h.bel.setCell (by show w0.heap.size ≤ w0.heap.size + 2; omega) _, by simpa using hsz, h.sr.setOther (by show w0.heap.size ≠ w0.heap.size + 2; omega) _, h.sv.setOther (by show w0.heap.size + 1 ≠ w0.heap.size + 2; omega) _, (h.lr.set o _).congr (fun j hj => ?_), h.rr.setOther (by show w0.heap.size + 3 ≠ w0.heap.size + 2; omega) _, fun s hs => own_of_block (h.own s hs) (fun g hg => Deep.blk_setCell_other _ _ _ _ (by have := h.own_ge s hs g hg; show g ≠ w0.heap.size + 2; omega)), h.inj⟩
  by_cases e : j = o
  · subst e; rw [if_pos rfl, putV_same]
  · rw [if_neg e, putV_other _ _ e]

/-- readers[o] = r[:0] -/
theorem trunc (h : RS w0 w lw ls val) (o : Nat) (ho : o < 4) (a : Option Addr) (n cap : Nat) (hv : val (8 + o) = .slice a n cap) : RS w0 (w.setCell ⟨w0.heap.size + 3, o, none⟩ (.slice a 0 cap)) lw (putV ls (8 + o) []) (putV val (8 + o) (.slice a 0 cap)) := by
  refine h.put (8 + o) (w0.heap.size + 3) o (by omega) (.inr ⟨by omega, rfl, rfl⟩) [] _ ?_ (World.grownBy.refl w _) ?_
  · have := h.own (8 + o) (by omega)
    rw [hv] at this
    refine ⟨by simp [ints], ?_⟩
    rcases this.2 with ⟨e, _⟩ | ⟨g, cap', cur, e, h1, h2, h3, h4, h5, h6⟩
    · cases e; exact .inl ⟨rfl, rfl⟩
    · cases e
      exact .inr ⟨g, cap, cur, rfl, h1, h2, Nat.zero_le _, h4, h5, by simp [ints]⟩
  · right; left
    rw [hv]
    cases a <;> rfl
end RS
end Go.Proofs.Ybulkxos
