/-
  THE SEVENTEEN SLICES THAT zzs1188cbuild FILLS: each owns its row, no two the same one.
-/
import Derived.Test.YbulkxosCAcc
import Derived.Deep.RegionHeld3
import Derived.Deep.AppendLies
import Derived.Laws.IdiomCopy
namespace Go.Proofs.Ybulkxos
open Go.RowKit
set_option linter.unusedVariables false
set_option linter.unusedSimpArgs false

/-- which accesses slot s holds -/
def slotP (D : Dat) (s y : Nat) : Bool := if s < 4 then D.inL 0 s y else if s < 8 then D.inL 1 (s - 4) y else D.inT (s - 8) y
def ints (l : List Nat) : List Value := l.map fun y => Value.int .i32 (y : Nat)
def accV (D : Dat) (y : Nat) : List Value := [.int .i32 (D.T y), .int .i32 (D.O y), .bool (D.W y), .int .i32 (D.plc 0 y), .int .i32 (D.plc 1 y)]
def hdrF (B : Nat) (lv : Value) (j : Nat) : Value := if j = 0 then lv else if j = 1 then .slice (some ⟨B + 1, 0, none⟩) 4 4 else if j = 2 then .slice (some ⟨B + 2, 0, none⟩) 4 4 else .slice (some ⟨B + 3, 0, none⟩) 8 8
def putV {α : Type} (f : Nat → α) (s : Nat) (v : α) : Nat → α := fun x => if x = s then v else f x
theorem putV_same {α : Type} (f : Nat → α) (s : Nat) (v : α) : putV f s v s = v := by simp [putV]
theorem putV_other {α : Type} (f : Nat → α) {s x : Nat} (v : α) (h : x ≠ s) : putV f s v x = f x := by simp [putV, h]

theorem own_of_block {w w' : World} {base : Nat} {e : TypeId} {sz : Nat} {v : Value} {n : Nat} {xs : List Value} (h : w.ownsRow base e sz v n xs) (hh : ∀ g, v.ownBlock = some g → w'.heap[g]? = w.heap[g]?) : w'.ownsRow base e sz v n xs := by
  refine ⟨h.1, ?_⟩
  rcases h.2 with h0 | ⟨g, cap, cur, rfl, hb, hgg, rest⟩
  · exact .inl h0
  · exact .inr ⟨g, cap, cur, rfl, hb, by rw [hh g rfl]; exact hgg, rest⟩
theorem own_lt {w : World} {base : Nat} {e : TypeId} {sz : Nat} {v : Value} {n : Nat} {xs : List Value} (h : w.ownsRow base e sz v n xs) {g : Nat} (hg : v.ownBlock = some g) : base ≤ g ∧ g < w.heap.size ∧ ∃ cur, w.heap[g]? = some (.cells cur e (0, 0)) := by
  rcases h.2 with ⟨rfl, _⟩ | ⟨g', cap, cur, rfl, hb, hgg, _⟩
  · simp [Value.ownBlock] at hg
  · obtain rfl : g' = g := by simpa [Value.ownBlock] using hg
    exact ⟨hb, (Array.getElem?_eq_some_iff.1 hgg).1, cur, hgg⟩

structure Fam (w0 w : World) (D : Dat) (c : Nat → Nat) (ln : Nat) (val : Nat → Value) (lv : Value) : Prop where
  bel : Below w0.heap.size w0 w
  size : w0.heap.size + 4 ≤ w.heap.size
  row : w.rowIs w0.heap.size 58 4 (hdrF w0.heap.size lv)
  o0 : w.rowIs (w0.heap.size + 1) 50 4 (fun o => val o)
  o1 : w.rowIs (w0.heap.size + 2) 50 4 (fun o => val (4 + o))
  tx : w.rowIs (w0.heap.size + 3) 50 8 (fun t => val (8 + t))
  own : ∀ s, s < 16 → w.ownsRow (w0.heap.size + 4) 21 1 (val s) (idx (slotP D s) (c s)) (ints (sel (slotP D s) (c s)))
  lown : w.ownsRow (w0.heap.size + 4) 60 5 lv ln ((List.range ln).flatMap (accV D))
  inj : ∀ s s' g, s < 16 → s' < 16 → (val s).ownBlock = some g → (val s').ownBlock = some g → s = s'

namespace Fam
variable {w0 w : World} {D : Dat} {c : Nat → Nat} {ln : Nat} {val : Nat → Value} {lv : Value}

theorem keep {w' : World} (h : Fam w0 w D c ln val lv) (hb : Below w.heap.size w w') : Fam w0 w' D c ln val lv :=
  ⟨h.bel.trans (hb.mono (by have := h.size; omega)), Nat.le_trans h.size hb.size, Below.row' hb h.row, Below.row' hb h.o0, Below.row' hb h.o1, Below.row' hb h.tx,
    fun s hs => own_of_block (h.own s hs) (fun g hg => hb.block g (own_lt (h.own s hs) hg).2.1), own_of_block h.lown (fun g hg => hb.block g (own_lt h.lown hg).2.1), h.inj⟩
theorem alloc (h : Fam w0 w D c ln val lv) (o : Obj) : Fam w0 (w.alloc o) D c ln val lv := h.keep ((Below.refl _ _).alloc (Nat.le_refl _) _)
theorem drewN (h : Fam w0 w D c ln val lv) (n : Nat) : Fam w0 (w.drewN n) D c ln val lv := h.keep ⟨rfl, rfl, rfl, Nat.le_refl _, fun _ _ => rfl⟩
theorem drew (h : Fam w0 w D c ln val lv) : Fam w0 w.drew D c ln val lv := h.drewN 1

/-- an access that slot s does not hold -/
theorem bump (h : Fam w0 w D c ln val lv) (c' : Nat → Nat) (hc : ∀ s, s < 16 → c' s = c s ∨ (c' s = c s + 1 ∧ slotP D s (c s) = false)) : Fam w0 w D c' ln val lv :=
  ⟨h.bel, h.size, h.row, h.o0, h.o1, h.tx, fun s hs => by
    have := h.own s hs
    rcases hc s hs with e | ⟨e, e2⟩
    · rw [e]; exact this
    · rw [e, idx_succ, sel_succ, e2]; exact this, h.lown, h.inj⟩

/-- slot s takes the access c s; behind it the header's cell is stored -/
theorem push {w2 : World} (h : Fam w0 w D c ln val lv) (s hb ho : Nat) (hs : s < 16) (hh : (s < 4 ∧ hb = w0.heap.size + 1 ∧ ho = s) ∨ (4 ≤ s ∧ s < 8 ∧ hb = w0.heap.size + 2 ∧ s = 4 + ho) ∨ (8 ≤ s ∧ hb = w0.heap.size + 3 ∧ s = 8 + ho))
    (hP : slotP D s (c s) = true) (g cap H : Nat) (hown : w2.ownsRow (w0.heap.size + 4) 21 1 (.slice (some ⟨g, 0, none⟩) (idx (slotP D s) (c s) + 1) cap) (idx (slotP D s) (c s) + 1) (ints (sel (slotP D s) (c s)) ++ [.int .i32 (c s : Nat)]))
    (hg : w.grownBy w2 (val s).ownBlock) (hat : (val s).ownBlock = some g ∨ g = H) (hH : w.heap.size = H) :
    Fam w0 (w2.setCell ⟨hb, ho, none⟩ (.slice (some ⟨g, 0, none⟩) (idx (slotP D s) (c s) + 1) cap)) D (putV c s (c s + 1)) ln (putV val s (.slice (some ⟨g, 0, none⟩) (idx (slotP D s) (c s) + 1) cap)) lv := by
  subst hH
  have hsz := h.size
  have hsz2 := hg.size
  have hne : ∀ k, k < w0.heap.size + 4 → some k ≠ (val s).ownBlock := fun k hk e => by have := (own_lt (h.own s hs) e.symm).1; omega
  have hblk : ∀ k, k < w0.heap.size + 4 → w2.heap[k]? = w.heap[k]? := fun k hk => hg.block k (by omega) (hne k hk)
  have hbR : w0.heap.size ≤ hb ∧ hb < w0.heap.size + 4 := by omega
  have up : ∀ {b t n : Nat} {f : Nat → Value}, b < w0.heap.size + 4 → w.rowIs b t n f → w2.rowIs b t n f := fun hb hr => hr.of_block (hblk _ hb)
  generalize hv : Value.slice (some ⟨g, 0, none⟩) (idx (slotP D s) (c s) + 1) cap = v at *
  have hset : ∀ k, w0.heap.size + 4 ≤ k → (w2.setCell ⟨hb, ho, none⟩ v).heap[k]? = w2.heap[k]? := fun k hk => Deep.blk_setCell_other _ _ _ _ (by show k ≠ hb; omega)
  have hvg : v.ownBlock = some g := by rw [← hv]; rfl
  have hother : ∀ s', s' < 16 → s' ≠ s → ∀ k, (val s').ownBlock = some k → some k ≠ (val s).ownBlock := fun s' hs' hn k hk e => hn (h.inj s' s k hs' hs hk e.symm)
  refine ⟨(h.bel.trans ⟨hg.os, hg.tape, hg.output, hg.size, fun k hk => hblk k (by omega)⟩).setCell (by exact hbR.1) _, by simp; omega, ?_, ?_, ?_, ?_, ?_, ?_, ?_⟩
  · exact (up (by omega) h.row).setOther (by show w0.heap.size ≠ hb; omega) _
  · by_cases e : hb = w0.heap.size + 1
    · subst e
      refine ((up (by omega) h.o0).set ho v).congr (fun j hj => ?_)
      by_cases e2 : j = ho
      · rw [if_pos e2]; subst e2; obtain rfl : j = s := by omega
        rw [putV_same]
      · rw [if_neg e2, putV_other _ _ (by omega)]
    · exact ((up (by omega) h.o0).setOther (by show w0.heap.size + 1 ≠ hb; omega) _).congr (fun j hj => by rw [putV_other _ _ (by omega)])
  · by_cases e : hb = w0.heap.size + 2
    · subst e
      refine ((up (by omega) h.o1).set ho v).congr (fun j hj => ?_)
      by_cases e2 : j = ho
      · rw [if_pos e2]; subst e2; obtain rfl : s = 4 + j := by omega
        rw [putV_same]
      · rw [if_neg e2, putV_other _ _ (by omega)]
    · exact ((up (by omega) h.o1).setOther (by show w0.heap.size + 2 ≠ hb; omega) _).congr (fun j hj => by rw [putV_other _ _ (by omega)])
  · by_cases e : hb = w0.heap.size + 3
    · subst e
      refine ((up (by omega) h.tx).set ho v).congr (fun j hj => ?_)
      by_cases e2 : j = ho
      · rw [if_pos e2]; subst e2; obtain rfl : s = 8 + j := by omega
        rw [putV_same]
      · rw [if_neg e2, putV_other _ _ (by omega)]
    · exact ((up (by omega) h.tx).setOther (by show w0.heap.size + 3 ≠ hb; omega) _).congr (fun j hj => by rw [putV_other _ _ (by omega)])
  · intro s' hs'
    by_cases e : s' = s
    · subst e
      rw [putV_same, putV_same, idx_succ, sel_succ, hP, if_pos rfl, if_pos rfl]
      refine own_of_block (w := w2) ?_ (fun k hk => hset k (own_lt hown hk).1)
      simpa [ints] using hown
    · rw [putV_other _ _ e, putV_other _ _ e]
      refine own_of_block (h.own s' hs') (fun k hk => ?_)
      obtain ⟨a1, a2, _⟩ := own_lt (h.own s' hs') hk
      rw [hset k a1, hg.block k a2 (hother s' hs' e k hk)]
  · refine own_of_block h.lown (fun k hk => ?_)
    obtain ⟨a1, a2, cur, a3⟩ := own_lt h.lown hk
    rw [hset k a1, hg.block k a2 (fun e => ?_)]
    obtain ⟨_, _, cur', b3⟩ := own_lt (h.own s hs) e.symm
    rw [a3] at b3
    cases b3
  · intro s1 s2 k h1 h2 q1 q2
    have key : ∀ s', s' < 16 → s' ≠ s → (val s').ownBlock = some g → False := fun s' hs' hn hk => by
      rcases hat with e | e
      · exact hother s' hs' hn g hk e.symm
      · have := (own_lt (h.own s' hs') hk).2.1
        omega
    by_cases e1 : s1 = s
    · by_cases e2 : s2 = s
      · omega
      · rw [e1, putV_same, hvg] at q1
        rw [putV_other _ _ e2] at q2
        cases q1
        exact (key s2 h2 e2 q2).elim
    · by_cases e2 : s2 = s
      · rw [e2, putV_same, hvg] at q2
        rw [putV_other _ _ e1] at q1
        cases q2
        exact (key s1 h1 e1 q1).elim
      · rw [putV_other _ _ e1] at q1
        rw [putV_other _ _ e2] at q2
        exact h.inj s1 s2 k h1 h2 q1 q2

/-- the list takes access ln -/
theorem lpush {w2 : World} (h : Fam w0 w D c ln val lv) (g cap : Nat) (hown : w2.ownsRow (w0.heap.size + 4) 60 5 (.slice (some ⟨g, 0, none⟩) (ln + 1) cap) (ln + 1) ((List.range ln).flatMap (accV D) ++ accV D ln))
    (hg : w.grownBy w2 lv.ownBlock) : Fam w0 (w2.setCell ⟨w0.heap.size, 0, none⟩ (.slice (some ⟨g, 0, none⟩) (ln + 1) cap)) D c (ln + 1) val (.slice (some ⟨g, 0, none⟩) (ln + 1) cap) := by
  have hsz := h.size
  have hsz2 := hg.size
  have hne : ∀ k, k < w0.heap.size + 4 → some k ≠ lv.ownBlock := fun k hk e => by have := (own_lt h.lown e.symm).1; omega
  have hblk : ∀ k, k < w0.heap.size + 4 → w2.heap[k]? = w.heap[k]? := fun k hk => hg.block k (by omega) (hne k hk)
  have up : ∀ {b t n : Nat} {f : Nat → Value}, b < w0.heap.size + 4 → w.rowIs b t n f → w2.rowIs b t n f := fun hb hr => hr.of_block (hblk _ hb)
  generalize hv : Value.slice (some ⟨g, 0, none⟩) (ln + 1) cap = v at *
  have hset : ∀ k, w0.heap.size + 4 ≤ k → (w2.setCell ⟨w0.heap.size, 0, none⟩ v).heap[k]? = w2.heap[k]? := fun k hk => Deep.blk_setCell_other _ _ _ _ (by show k ≠ w0.heap.size; omega)
  refine ⟨(h.bel.trans ⟨hg.os, hg.tape, hg.output, hg.size, fun k hk => hblk k (by omega)⟩).setCell (by exact Nat.le_refl _) _, by simp; omega, ?_, ?_, ?_, ?_, ?_, ?_, h.inj⟩
  · refine ((up (by omega) h.row).set 0 v).congr (fun j hj => ?_)
    by_cases e : j = 0
    · subst e; simp [hdrF]
    · rw [if_neg e]; simp [hdrF, e]
  · exact (up (by omega) h.o0).setOther (by show w0.heap.size + 1 ≠ w0.heap.size; omega) _
  · exact (up (by omega) h.o1).setOther (by show w0.heap.size + 2 ≠ w0.heap.size; omega) _
  · exact (up (by omega) h.tx).setOther (by show w0.heap.size + 3 ≠ w0.heap.size; omega) _
  · intro s hs
    refine own_of_block (h.own s hs) (fun k hk => ?_)
    obtain ⟨a1, a2, cur, a3⟩ := own_lt (h.own s hs) hk
    rw [hset k a1, hg.block k a2 (fun e => ?_)]
    obtain ⟨_, _, cur', b3⟩ := own_lt h.lown e.symm
    rw [a3] at b3
    cases b3
  · refine own_of_block (w := w2) ?_ (fun k hk => hset k (own_lt hown hk).1)
    rw [List.range_succ, List.flatMap_append]
    simpa using hown

/-- the headers lie apart from every own row -/
theorem hdrs_of (h : Fam w0 w D c ln val lv) {w2 : World} {row : Option Nat} (hg : w.grownBy w2 row) (hr : ∀ g, row = some g → w0.heap.size + 4 ≤ g) : w2.rowIs w0.heap.size 58 4 (hdrF w0.heap.size lv) ∧ w2.rowIs (w0.heap.size + 1) 50 4 (fun o => val o) ∧ w2.rowIs (w0.heap.size + 2) 50 4 (fun o => val (4 + o)) ∧ w2.rowIs (w0.heap.size + 3) 50 8 (fun t => val (8 + t)) := by
  have hsz := h.size
  have up : ∀ {b t n : Nat} {f : Nat → Value}, b < w0.heap.size + 4 → w.rowIs b t n f → w2.rowIs b t n f := fun hb hr' => hr'.of_block (hg.block _ (by omega) (fun e => by have := hr _ e.symm; omega))
  exact ⟨up (by omega) h.row, up (by omega) h.o0, up (by omega) h.o1, up (by omega) h.tx⟩
theorem own_ge (h : Fam w0 w D c ln val lv) (s : Nat) (hs : s < 16) : ∀ g, (val s).ownBlock = some g → w0.heap.size + 4 ≤ g := fun g hg => (own_lt (h.own s hs) hg).1
theorem lown_ge (h : Fam w0 w D c ln val lv) : ∀ g, lv.ownBlock = some g → w0.heap.size + 4 ≤ g := fun g hg => (own_lt h.lown hg).1
/-- a block of another type is no own row -/
theorem far (h : Fam w0 w D c ln val lv) {b t : Nat} {cs : Array Value} {fr : Nat × Nat} (hb : w.heap[b]? = some (.cells cs t fr)) (ht : t ≠ 21) (s : Nat) (hs : s < 16) : some b ≠ (val s).ownBlock := fun e => by
  obtain ⟨_, _, cur, h3⟩ := own_lt (h.own s hs) e.symm
  rw [hb] at h3
  cases h3
  exact ht rfl
theorem lfar (h : Fam w0 w D c ln val lv) {b t : Nat} {cs : Array Value} {fr : Nat × Nat} (hb : w.heap[b]? = some (.cells cs t fr)) (ht : t ≠ 60) : some b ≠ lv.ownBlock := fun e => by
  obtain ⟨_, _, cur, h3⟩ := own_lt h.lown e.symm
  rw [hb] at h3
  cases h3
  exact ht rfl
end Fam

/-! ### at the end: the accesses, for reading -/
def sAddr : Value → Option Addr | .slice a _ _ => a | _ => none
def sBlk : Value → Nat | .slice (some a) _ _ => a.block | _ => 0
def sCap : Value → Nat | .slice _ _ k => k | _ => 0

theorem own_form {w : World} {base : Nat} {e : TypeId} {sz : Nat} {v : Value} {n : Nat} {xs : List Value} (h : w.ownsRow base e sz v n xs) : v = .slice (sAddr v) n (sCap v) ∧ (0 < n → sAddr v = some ⟨sBlk v, 0, none⟩ ∧ ∀ j u, xs[j]? = some u → w.cell? ⟨sBlk v, j, none⟩ = some u) := by
  rcases h.2 with ⟨rfl, rfl⟩ | ⟨g, cap, cur, rfl, hb, hgg, h4, h5, h6, h7⟩
  · exact ⟨rfl, fun h => absurd h (by omega)⟩
  · refine ⟨rfl, fun _ => ⟨rfl, fun j u hu => ?_⟩⟩
    have hl : j < n * sz := by
      rw [← h.1]
      exact (List.getElem?_eq_some_iff.1 hu).1
    rw [← h7, List.getElem?_take_of_lt hl] at hu
    simp [World.cell?, sBlk, hgg]
    simpa using hu

def famM (val : Nat → Value) (lv : Value) : AccM :=
  ⟨sAddr lv, sBlk lv, sCap lv, fun k o => sAddr (val (4 * k + o)), fun k o => sBlk (val (4 * k + o)), fun k o => sCap (val (4 * k + o)), fun t => sAddr (val (8 + t)), fun t => sBlk (val (8 + t)), fun t => sCap (val (8 + t))⟩

theorem flat_get (D : Dat) (n x j : Nat) (hx : x < n) (hj : j < 5) : ((List.range n).flatMap (accV D))[x * 5 + j]? = (accV D x)[j]? := by
  induction n with
  | zero => omega
  | succ n ih =>
    have hl : ((List.range n).flatMap (accV D)).length = n * 5 := by
      clear ih hx
      induction n with
      | zero => rfl
      | succ n ih => rw [List.range_succ, List.flatMap_append, List.length_append, ih]; simp [accV]; omega
    rw [List.range_succ, List.flatMap_append]
    by_cases e : x = n
    · subst e
      rw [List.getElem?_append_right (by omega), hl]
      simp [Nat.add_sub_cancel_left]
    · rw [List.getElem?_append_left (by omega)]
      exact ih (by omega)

theorem slot_obj (D : Dat) (k o : Nat) (hk : k < 2) (ho : o < 4) : slotP D (4 * k + o) = D.inL k o := by
  funext y
  obtain rfl | rfl : k = 0 ∨ k = 1 := by omega
  · simp [slotP, ho]
  · simp [slotP, show ¬ (4 * 1 + o < 4) by omega, show 4 * 1 + o < 8 by omega, show 4 * 1 + o - 4 = o by omega]
theorem slot_txn (D : Dat) (t : Nat) : slotP D (8 + t) = D.inT t := by
  funext y
  simp [slotP, show ¬ (8 + t < 4) by omega, show ¬ (8 + t < 8) by omega, show 8 + t - 8 = t by omega]

theorem ints_get (p : Nat → Bool) (n j : Nat) (h : j < idx p n) : (ints (sel p n))[j]? = some (.int .i32 (nth p n j : Nat)) := by
  obtain ⟨h1, h2, h3⟩ := nth_ok p h
  have := sel_get p h2 h1
  rw [← h3] at this
  simp [ints, this]

theorem Fam.acc {w0 w : World} {D : Dat} {val : Nat → Value} {lv : Value} (h : Fam w0 w D (fun _ => D.N) D.N val lv) (ht : ∀ x, x < D.N → D.T x < 8) (ho : ∀ x, x < D.N → D.O x < 4) (hn : D.N ≤ 1024) : Acc w w0.heap.size D (famM val lv) := by
  obtain ⟨l1, l2⟩ := own_form h.lown
  refine ⟨h.row.congr (fun j hj => ?_), fun k hk => ?_, h.tx.congr (fun t ht => ?_), fun x hx => ?_, fun k o j hk ho' hj => ?_, fun t j ht hj => ?_, ht, ho, hn⟩
  · unfold accF hdrF famM
    simp only
    by_cases e : j = 0
    · rw [if_pos e, if_pos e]; exact l1
    · rw [if_neg e, if_neg e]
  · obtain rfl | rfl : k = 0 ∨ k = 1 := by omega
    · refine h.o0.congr (fun o ho' => ?_)
      have := (own_form (h.own (4 * 0 + o) (by omega))).1
      rw [slot_obj D 0 o (by omega) ho'] at this
      have e : 4 * 0 + o = o := by omega
      rw [e] at this
      simpa [famM, Dat.len] using this
    · refine h.o1.congr (fun o ho' => ?_)
      have := (own_form (h.own (4 * 1 + o) (by omega))).1
      rw [slot_obj D 1 o (by omega) ho'] at this
      simpa [famM, Dat.len] using this
  · have := (own_form (h.own (8 + t) (by omega))).1
    rw [slot_txn] at this
    exact this
  · obtain ⟨a1, a2⟩ := l2 (by omega)
    have hc : ∀ j, j < 5 → ∀ u, (accV D x)[j]? = some u → w.cell? ⟨sBlk lv, x * 5 + j, none⟩ = some u := fun j hj u hu => a2 _ _ (by rw [flat_get D _ x j hx hj]; exact hu)
    exact ⟨a1, hc 0 (by omega) _ rfl, hc 1 (by omega) _ rfl, hc 2 (by omega) _ rfl, hc 3 (by omega) _ rfl, hc 4 (by omega) _ rfl⟩
  · have hf := own_form (h.own (4 * k + o) (by omega))
    rw [slot_obj D k o hk ho'] at hf
    have hj' : j < idx (D.inL k o) D.N := hj
    obtain ⟨a1, a2⟩ := hf.2 (by omega)
    exact ⟨a1, a2 j _ (ints_get _ _ j hj')⟩
  · have hf := own_form (h.own (8 + t) (by omega))
    rw [slot_txn] at hf
    obtain ⟨a1, a2⟩ := hf.2 (by omega)
    exact ⟨a1, a2 j _ (ints_get _ _ j hj)⟩
end Go.Proofs.Ybulkxos
