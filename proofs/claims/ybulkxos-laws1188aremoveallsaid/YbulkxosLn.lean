/-
  THE LINE IN MEMORY, as a plain relation on a world: the row 'ps' (block B), the n requests (blocks B+1 .. B+n, 14 cells each), the line itself (block B+1+n, 3 cells).
  'Ln w B n s cv hd tl lc pv nx': in strand s request i leads back to 'pv i' and on to 'nx i' (indices; none: nil); the other strand's links are nil.
  No walk in this text.
-/
import Derived.Deep.OwnRows
import Derived.Deep.Draws
import Derived.Below
namespace Go.Proofs.Ybulkxos
open Go.RowKit
set_option linter.unusedSimpArgs false

/-- the pointer to request i (none: nil) -/
def pt (B : Nat) (x : Option Nat) : Value := .pointer (x.map fun i => ⟨B + 1 + i, 0, none⟩)

/-- the cells of a request -/
def nodeF (s : Nat) (cv : Bool) (p q : Value) (j : Nat) : Value :=
  if j = 8 + 2 * s then p else if j = 9 + 2 * s then q else
  if j = 3 then .int .u64 0 else if j = 4 then .int .u8 0 else if j = 5 then .bool cv else if j = 6 then .int .u8 0 else if j = 7 then .bool false else
  if j = 12 then .chan none else if j = 13 then .nilIface else .pointer none

/-- the cells of the line -/
def lineF (h t c : Value) (j : Nat) : Value := if j = 0 then h else if j = 1 then t else c

structure Ln (w : World) (B n s : Nat) (cv : Nat → Bool) (hd tl lc : Option Nat) (pv nx : Nat → Option Nat) : Prop where
  ps : w.rowIs B 28 n (fun i => pt B (some i))
  node : ∀ i, i < n → w.rowIs (B + 1 + i) 43 14 (nodeF s (cv i) (pt B (pv i)) (pt B (nx i)))
  line : w.rowIs (B + 1 + n) 30 3 (lineF (pt B hd) (pt B tl) (pt B lc))

namespace Ln
variable {w : World} {B n s : Nat} {cv : Nat → Bool} {hd tl lc : Option Nat} {pv nx : Nat → Option Nat}

theorem drewN (h : Ln w B n s cv hd tl lc pv nx) (k : Nat) : Ln (w.drewN k) B n s cv hd tl lc pv nx := ⟨h.ps, h.node, h.line⟩
theorem alloc (h : Ln w B n s cv hd tl lc pv nx) (o : Obj) : Ln (w.alloc o) B n s cv hd tl lc pv nx :=
  ⟨h.ps.alloc o, fun i hi => (h.node i hi).alloc o, h.line.alloc o⟩
theorem of_blocks {w' : World} (h : Ln w B n s cv hd tl lc pv nx) (e : ∀ b, B ≤ b → b ≤ B + 1 + n → w'.heap[b]? = w.heap[b]?) : Ln w' B n s cv hd tl lc pv nx :=
  ⟨h.ps.of_block (e _ (by omega) (by omega)), fun i hi => (h.node i hi).of_block (e _ (by omega) (by omega)), h.line.of_block (e _ (by omega) (by omega))⟩
theorem congr {hd' tl' lc' : Option Nat} {pv' nx' : Nat → Option Nat} (h : Ln w B n s cv hd tl lc pv nx) (e1 : hd = hd') (e2 : tl = tl') (e3 : lc = lc')
    (e4 : ∀ i, i < n → pv i = pv' i) (e5 : ∀ i, i < n → nx i = nx' i) : Ln w B n s cv hd' tl' lc' pv' nx' := by
  subst e1 e2 e3
  exact ⟨h.ps, fun i hi => by rw [← e4 i hi, ← e5 i hi]; exact h.node i hi, h.line⟩

theorem setNx (h : Ln w B n s cv hd tl lc pv nx) (i : Nat) (v : Option Nat) (hi : i < n) :
    Ln (w.setCell ⟨B + 1 + i, 9 + 2 * s, none⟩ (pt B v)) B n s cv hd tl lc pv (fun j => if j = i then v else nx j) := by
  refine ⟨h.ps.setOther (by show B ≠ B + 1 + i; omega) _, fun j hj => ?_, h.line.setOther (by show B + 1 + n ≠ B + 1 + i; omega) _⟩
  by_cases e : j = i
  · subst e
    refine ((h.node j hj).set (9 + 2 * s) (pt B v)).congr (fun k _ => ?_)
    simp only [nodeF, if_true]
    by_cases e1 : k = 9 + 2 * s
    · subst e1
      rw [if_pos rfl, if_neg (by omega), if_pos rfl]
    · rw [if_neg e1, if_neg e1, if_neg e1]
  · simp only [if_neg e]
    exact (h.node j hj).setOther (by show B + 1 + j ≠ B + 1 + i; omega) _

theorem setPv (h : Ln w B n s cv hd tl lc pv nx) (i : Nat) (v : Option Nat) (hi : i < n) :
    Ln (w.setCell ⟨B + 1 + i, 8 + 2 * s, none⟩ (pt B v)) B n s cv hd tl lc (fun j => if j = i then v else pv j) nx := by
  refine ⟨h.ps.setOther (by show B ≠ B + 1 + i; omega) _, fun j hj => ?_, h.line.setOther (by show B + 1 + n ≠ B + 1 + i; omega) _⟩
  by_cases e : j = i
  · subst e
    refine ((h.node j hj).set (8 + 2 * s) (pt B v)).congr (fun k _ => ?_)
    simp only [nodeF, if_true]
    by_cases e1 : k = 8 + 2 * s
    · subst e1
      rw [if_pos rfl, if_pos rfl]
    · rw [if_neg e1, if_neg e1, if_neg e1]
  · simp only [if_neg e]
    exact (h.node j hj).setOther (by show B + 1 + j ≠ B + 1 + i; omega) _

theorem setHd (h : Ln w B n s cv hd tl lc pv nx) (v : Option Nat) : Ln (w.setCell ⟨B + 1 + n, 0, none⟩ (pt B v)) B n s cv v tl lc pv nx := by
  refine ⟨h.ps.setOther (by show B ≠ B + 1 + n; omega) _, fun j hj => (h.node j hj).setOther (by show B + 1 + j ≠ B + 1 + n; omega) _, (h.line.set 0 (pt B v)).congr (fun k _ => ?_)⟩
  unfold lineF
  by_cases e : k = 0 <;> simp [e]
theorem setTl (h : Ln w B n s cv hd tl lc pv nx) (v : Option Nat) : Ln (w.setCell ⟨B + 1 + n, 1, none⟩ (pt B v)) B n s cv hd v lc pv nx := by
  refine ⟨h.ps.setOther (by show B ≠ B + 1 + n; omega) _, fun j hj => (h.node j hj).setOther (by show B + 1 + j ≠ B + 1 + n; omega) _, (h.line.set 1 (pt B v)).congr (fun k _ => ?_)⟩
  unfold lineF
  by_cases e : k = 1
  · simp [e]
  · simp [e]
theorem setLc (h : Ln w B n s cv hd tl lc pv nx) (v : Option Nat) : Ln (w.setCell ⟨B + 1 + n, 2, none⟩ (pt B v)) B n s cv hd tl v pv nx := by
  refine ⟨h.ps.setOther (by show B ≠ B + 1 + n; omega) _, fun j hj => (h.node j hj).setOther (by show B + 1 + j ≠ B + 1 + n; omega) _, (h.line.set 2 (pt B v)).congr (fun k hk => ?_)⟩
  unfold lineF
  by_cases e : k = 2
  · simp [e]
  · have : k = 0 ∨ k = 1 := by omega
    rcases this with rfl | rfl <;> simp
end Ln

/-- a cell that can be read and written -/
def At (w : World) (b o : Nat) (v : Value) : Prop := w.cell? ⟨b, o, none⟩ = some v ∧ w.frozen? ⟨b, o, none⟩ = false
theorem At.lt {w : World} {b o : Nat} {v : Value} (h : At w b o v) : b < w.heap.size := World.block_lt_of_cell? _ _ h.1
theorem At.of_row {w : World} {b t n i : Nat} {f : Nat → Value} (h : w.rowIs b t n f) (hi : i < n) : At w b i (f i) := ⟨h.cell hi, h.frozen i⟩

/-- block b is a plain row of cells, none frozen -/
def plainB (w : World) (b : Nat) : Prop := ∃ c t, w.heap[b]? = some (.cells c t (0, 0))
theorem plainB_of_row {w : World} {b t n : Nat} {f : Nat → Value} (h : w.rowIs b t n f) : plainB w b := by
  obtain ⟨c, hb, _⟩ := h
  exact ⟨c, t, hb⟩

/-- WHAT 'remove' MAKES OF THE WORLD (blocks by their numbers) -/
def ptr (x : Option Nat) : Value := .pointer (x.map fun b => ⟨b, 0, none⟩)
def rmTo (w : World) (s lb pb : Nat) (pv nx : Option Nat) (isLc : Bool) : World :=
  let w1 := match pv with
    | some q => w.setCell ⟨q, 9 + 2 * s, none⟩ (ptr nx)
    | none => w.setCell ⟨lb, 0, none⟩ (ptr nx)
  let w2 := match nx with
    | some r => w1.setCell ⟨r, 8 + 2 * s, none⟩ (ptr pv)
    | none => w1.setCell ⟨lb, 1, none⟩ (ptr pv)
  let w3 := match isLc with
    | true => w2.setCell ⟨lb, 2, none⟩ (ptr pv)
    | false => w2
  ((w3.setCell ⟨pb, 8 + 2 * s, none⟩ (.pointer none)).setCell ⟨pb, 9 + 2 * s, none⟩ (.pointer none)).alloc (.cells #[ptr pv, ptr nx] 32)

theorem ptr_map (B : Nat) (x : Option Nat) : ptr (x.map fun i => B + 1 + i) = pt B x := by
  cases x <;> rfl

/-- .. AND OF THE LINE: request r is taken out. -/
theorem Ln.removed {w : World} {B n s : Nat} {cv : Nat → Bool} {hd tl lc : Option Nat} {pv nx : Nat → Option Nat} (h : Ln w B n s cv hd tl lc pv nx) (r : Nat) (hr : r < n)
    (hp : ∀ q, pv r = some q → q < n) (hn : ∀ q, nx r = some q → q < n) (b : Bool) (hb : b = decide (lc = some r)) :
    Ln (rmTo w s (B + 1 + n) (B + 1 + r) ((pv r).map fun i => B + 1 + i) ((nx r).map fun i => B + 1 + i) b) B n s cv
      (if pv r = none then nx r else hd) (if nx r = none then pv r else tl) (if lc = some r then pv r else lc)
      (fun i => if i = r then none else if nx r = some i then pv r else pv i) (fun i => if i = r then none else if pv r = some i then nx r else nx i) := by
  unfold rmTo
  simp only [ptr_map]
  refine Ln.alloc ?_ _
  have e0 : (Value.pointer none) = pt B none := rfl
  rw [e0]
  cases hpv : pv r with
  | some q =>
    have hq := hp q hpv
    cases hnx : nx r with
    | some t =>
      have ht := hn t hnx
      cases b with
      | true =>
        have hlc : lc = some r := by simpa using hb.symm
        refine (((((h.setNx q (some t) hq).setPv t (some q) ht).setLc (some q)).setPv r none hr).setNx r none hr).congr (by simp) (by simp) (by simp [hlc]) (fun i _ => ?_) (fun i _ => ?_)
        · by_cases e : i = r
          · simp [e]
          · by_cases e' : i = t
            · simp [e, e']
            · simp [e, e', show ¬ t = i from fun x => e' x.symm]
        · by_cases e : i = r
          · simp [e]
          · by_cases e' : i = q
            · simp [e, e']
            · simp [e, e', show ¬ q = i from fun x => e' x.symm]
      | false =>
        have hlc : ¬ lc = some r := by simpa using hb.symm
        refine ((((h.setNx q (some t) hq).setPv t (some q) ht).setPv r none hr).setNx r none hr).congr (by simp) (by simp) (by simp [hlc]) (fun i _ => ?_) (fun i _ => ?_)
        · by_cases e : i = r
          · simp [e]
          · by_cases e' : i = t
            · simp [e, e']
            · simp [e, e', show ¬ t = i from fun x => e' x.symm]
        · by_cases e : i = r
          · simp [e]
          · by_cases e' : i = q
            · simp [e, e']
            · simp [e, e', show ¬ q = i from fun x => e' x.symm]
    | none =>
      cases b with
      | true =>
        have hlc : lc = some r := by simpa using hb.symm
        refine (((((h.setNx q none hq).setTl (some q)).setLc (some q)).setPv r none hr).setNx r none hr).congr (by simp) (by simp) (by simp [hlc]) (fun i _ => ?_) (fun i _ => ?_)
        · by_cases e : i = r <;> simp [e]
        · by_cases e : i = r
          · simp [e]
          · by_cases e' : i = q
            · simp [e, e']
            · simp [e, e', show ¬ q = i from fun x => e' x.symm]
      | false =>
        have hlc : ¬ lc = some r := by simpa using hb.symm
        refine ((((h.setNx q none hq).setTl (some q)).setPv r none hr).setNx r none hr).congr (by simp) (by simp) (by simp [hlc]) (fun i _ => ?_) (fun i _ => ?_)
        · by_cases e : i = r <;> simp [e]
        · by_cases e : i = r
          · simp [e]
          · by_cases e' : i = q
            · simp [e, e']
            · simp [e, e', show ¬ q = i from fun x => e' x.symm]
  | none =>
    cases hnx : nx r with
    | some t =>
      have ht := hn t hnx
      cases b with
      | true =>
        have hlc : lc = some r := by simpa using hb.symm
        refine (((((h.setHd (some t)).setPv t none ht).setLc none).setPv r none hr).setNx r none hr).congr (by simp) (by simp) (by simp [hlc]) (fun i _ => ?_) (fun i _ => ?_)
        · by_cases e : i = r
          · simp [e]
          · by_cases e' : i = t
            · simp [e, e']
            · simp [e, e', show ¬ t = i from fun x => e' x.symm]
        · by_cases e : i = r <;> simp [e]
      | false =>
        have hlc : ¬ lc = some r := by simpa using hb.symm
        refine ((((h.setHd (some t)).setPv t none ht).setPv r none hr).setNx r none hr).congr (by simp) (by simp) (by simp [hlc]) (fun i _ => ?_) (fun i _ => ?_)
        · by_cases e : i = r
          · simp [e]
          · by_cases e' : i = t
            · simp [e, e']
            · simp [e, e', show ¬ t = i from fun x => e' x.symm]
        · by_cases e : i = r <;> simp [e]
    | none =>
      cases b with
      | true =>
        have hlc : lc = some r := by simpa using hb.symm
        refine (((((h.setHd none).setTl none).setLc none).setPv r none hr).setNx r none hr).congr (by simp) (by simp) (by simp [hlc]) (fun i _ => ?_) (fun i _ => ?_)
        · by_cases e : i = r <;> simp [e]
        · by_cases e : i = r <;> simp [e]
      | false =>
        have hlc : ¬ lc = some r := by simpa using hb.symm
        refine ((((h.setHd none).setTl none).setPv r none hr).setNx r none hr).congr (by simp) (by simp) (by simp [hlc]) (fun i _ => ?_) (fun i _ => ?_)
        · by_cases e : i = r <;> simp [e]
        · by_cases e : i = r <;> simp [e]

theorem rmTo_below {B0 : Nat} (w : World) (s lb pb : Nat) (pv nx : Option Nat) (b : Bool) (hw : B0 ≤ w.heap.size) (hl : B0 ≤ lb) (hp : B0 ≤ pb) (h1 : ∀ q, pv = some q → B0 ≤ q) (h2 : ∀ q, nx = some q → B0 ≤ q) :
    Below B0 w (rmTo w s lb pb pv nx b) ∧ (rmTo w s lb pb pv nx b).heap.size = w.heap.size + 1 := by
  unfold rmTo
  cases pv with
  | some q =>
    have k1 := h1 q rfl
    cases nx with
    | some t =>
      have k2 := h2 t rfl
      cases b with
      | true => exact ⟨Below.alloc (((((((Below.refl _ _).setCell k1 _).setCell k2 _).setCell hl _).setCell hp _).setCell hp _)) (by simpa using hw) _, by simp⟩
      | false => exact ⟨Below.alloc (((((((Below.refl _ _).setCell k1 _).setCell k2 _)).setCell hp _).setCell hp _)) (by simpa using hw) _, by simp⟩
    | none =>
      cases b with
      | true => exact ⟨Below.alloc (((((((Below.refl _ _).setCell k1 _).setCell hl _).setCell hl _).setCell hp _).setCell hp _)) (by simpa using hw) _, by simp⟩
      | false => exact ⟨Below.alloc (((((((Below.refl _ _).setCell k1 _).setCell hl _)).setCell hp _).setCell hp _)) (by simpa using hw) _, by simp⟩
  | none =>
    cases nx with
    | some t =>
      have k2 := h2 t rfl
      cases b with
      | true => exact ⟨Below.alloc (((((((Below.refl _ _).setCell hl _).setCell k2 _).setCell hl _).setCell hp _).setCell hp _)) (by simpa using hw) _, by simp⟩
      | false => exact ⟨Below.alloc (((((((Below.refl _ _).setCell hl _).setCell k2 _)).setCell hp _).setCell hp _)) (by simpa using hw) _, by simp⟩
    | none =>
      cases b with
      | true => exact ⟨Below.alloc (((((((Below.refl _ _).setCell hl _).setCell hl _).setCell hl _).setCell hp _).setCell hp _)) (by simpa using hw) _, by simp⟩
      | false => exact ⟨Below.alloc (((((((Below.refl _ _).setCell hl _).setCell hl _)).setCell hp _).setCell hp _)) (by simpa using hw) _, by simp⟩

end Go.Proofs.Ybulkxos
