/-
  'remove' AS A CONTRACT OVER THE RELATION 'Ln'.
-/
import Derived.Test.YbulkxosRm
namespace Go.Proofs.Ybulkxos
open Go.RowKit

theorem rmTo_other (w : World) (s lb pb : Nat) (pv nx : Option Nat) (b : Bool) (k : Nat) (hk : k < w.heap.size) (h0 : k ≠ lb) (h1 : k ≠ pb) (h2 : ∀ q, pv = some q → k ≠ q) (h3 : ∀ q, nx = some q → k ≠ q) :
    (rmTo w s lb pb pv nx b).heap[k]? = w.heap[k]? := by
  have key : ∀ W : World, k < W.heap.size → (((W.setCell ⟨pb, 8 + 2 * s, none⟩ (.pointer none)).setCell ⟨pb, 9 + 2 * s, none⟩ (.pointer none)).alloc (.cells #[ptr pv, ptr nx] 32)).heap[k]? = W.heap[k]? := by
    intro W hW
    rw [Deep.blk_alloc_lt _ _ _ (by simpa using hW), Deep.blk_setCell_other _ _ _ _ h1, Deep.blk_setCell_other _ _ _ _ h1]
  unfold rmTo
  cases pv with
  | some q =>
    have k1 := h2 q rfl
    cases nx with
    | some t =>
      have k2 := h3 t rfl
      cases b with
      | true => exact (key _ (by simpa using hk)).trans (by rw [Deep.blk_setCell_other _ _ _ _ h0, Deep.blk_setCell_other _ _ _ _ k2, Deep.blk_setCell_other _ _ _ _ k1])
      | false => exact (key _ (by simpa using hk)).trans (by rw [Deep.blk_setCell_other _ _ _ _ k2, Deep.blk_setCell_other _ _ _ _ k1])
    | none =>
      cases b with
      | true => exact (key _ (by simpa using hk)).trans (by rw [Deep.blk_setCell_other _ _ _ _ h0, Deep.blk_setCell_other _ _ _ _ h0, Deep.blk_setCell_other _ _ _ _ k1])
      | false => exact (key _ (by simpa using hk)).trans (by rw [Deep.blk_setCell_other _ _ _ _ h0, Deep.blk_setCell_other _ _ _ _ k1])
  | none =>
    cases nx with
    | some t =>
      have k2 := h3 t rfl
      cases b with
      | true => exact (key _ (by simpa using hk)).trans (by rw [Deep.blk_setCell_other _ _ _ _ h0, Deep.blk_setCell_other _ _ _ _ k2, Deep.blk_setCell_other _ _ _ _ h0])
      | false => exact (key _ (by simpa using hk)).trans (by rw [Deep.blk_setCell_other _ _ _ _ k2, Deep.blk_setCell_other _ _ _ _ h0])
    | none =>
      cases b with
      | true => exact (key _ (by simpa using hk)).trans (by rw [Deep.blk_setCell_other _ _ _ _ h0, Deep.blk_setCell_other _ _ _ _ h0, Deep.blk_setCell_other _ _ _ _ h0])
      | false => exact (key _ (by simpa using hk)).trans (by rw [Deep.blk_setCell_other _ _ _ _ h0, Deep.blk_setCell_other _ _ _ _ h0])

theorem rm_ln {w : World} {B n s : Nat} {cv : Nat → Bool} {hd tl lc : Option Nat} {pv nx : Nat → Option Nat} (h : Ln w B n s cv hd tl lc pv nx) (hs : s = 0 ∨ s = 1) (r : Nat) (hr : r < n)
    (hp : ∀ q, pv r = some q → q < n ∧ q ≠ r) (hn : ∀ q, nx r = some q → q < n ∧ q ≠ r) (hlc : ∀ q, lc = some q → q < n) :
    Calls Yba.prog 8 #[.pointer (some ⟨B + 1 + n, 0, none⟩), .pointer (some ⟨B + 1 + r, 0, none⟩), .int .u8 s] w fun e w' => e = .returned (.tuple #[]) ∧
      Ln w' B n s cv (if pv r = none then nx r else hd) (if nx r = none then pv r else tl) (if lc = some r then pv r else lc)
        (fun i => if i = r then none else if nx r = some i then pv r else pv i) (fun i => if i = r then none else if pv r = some i then nx r else nx i) ∧
      Below B w w' ∧ w'.heap.size = w.heap.size + 1 ∧ ∀ k, B + 1 + n < k → k < w.heap.size → w'.heap[k]? = w.heap[k]? := by
  have n8 : ∀ i v, i < n → nodeF s (cv i) (pt B (pv i)) (pt B (nx i)) (8 + 2 * s) = v → At w (B + 1 + i) (8 + 2 * s) v := fun i v hi e => by
    rw [← e]; exact At.of_row (h.node i hi) (by omega)
  have n9 : ∀ i v, i < n → nodeF s (cv i) (pt B (pv i)) (pt B (nx i)) (9 + 2 * s) = v → At w (B + 1 + i) (9 + 2 * s) v := fun i v hi e => by
    rw [← e]; exact At.of_row (h.node i hi) (by omega)
  have e9 : ∀ i, nodeF s (cv i) (pt B (pv i)) (pt B (nx i)) (9 + 2 * s) = pt B (nx i) := fun i => by
    unfold nodeF; rw [if_neg (by omega), if_pos rfl]
  refine (rm_any s (B + 1 + n) (B + 1 + r) ((pv r).map fun i => B + 1 + i) ((nx r).map fun i => B + 1 + i) (lc.map fun i => B + 1 + i) (pt B hd) (pt B tl) w hs (by omega) (plainB_of_row (h.node r hr))
    (At.of_row h.line (by omega)) (At.of_row h.line (by omega)) (by rw [ptr_map]; exact At.of_row h.line (i := 2) (by omega)) ?_ (by rw [ptr_map]; exact n8 r _ hr (by simp [nodeF])) (by rw [ptr_map]; exact n9 r _ hr (e9 r)) ?_ ?_).mono ?_
  · intro q hq
    obtain ⟨i, hi, rfl⟩ := Option.map_eq_some_iff.1 hq
    exact plainB_of_row (h.node i (hlc i hi))
  · intro q hq
    obtain ⟨i, hi, rfl⟩ := Option.map_eq_some_iff.1 hq
    obtain ⟨h1, h2⟩ := hp i hi
    exact ⟨by omega, by omega, _, n9 i _ h1 rfl⟩
  · intro q hq
    obtain ⟨i, hi, rfl⟩ := Option.map_eq_some_iff.1 hq
    obtain ⟨h1, h2⟩ := hn i hi
    exact ⟨by omega, by omega, _, n8 i _ h1 rfl⟩
  · rintro e w' ⟨rfl, k, rfl⟩
    have hb : decide ((lc.map fun i => B + 1 + i) = some (B + 1 + r)) = decide (lc = some r) := by
      cases lc with
      | none => rfl
      | some c => simp
    have hsz : B ≤ w.heap.size := by have := h.ps.lt; omega
    have hbel := rmTo_below (B0 := B) w s (B + 1 + n) (B + 1 + r) ((pv r).map fun i => B + 1 + i) ((nx r).map fun i => B + 1 + i) (decide ((lc.map fun i => B + 1 + i) = some (B + 1 + r))) hsz (by omega) (by omega)
      (fun q hq => by obtain ⟨i, _, rfl⟩ := Option.map_eq_some_iff.1 hq; omega) (fun q hq => by obtain ⟨i, _, rfl⟩ := Option.map_eq_some_iff.1 hq; omega)
    refine ⟨rfl, (h.removed r hr (fun q hq => (hp q hq).1) (fun q hq => (hn q hq).1) _ hb).drewN k, ⟨hbel.1.os, hbel.1.tape, hbel.1.output, hbel.1.size, hbel.1.block⟩, hbel.2, fun b h1 h2 => ?_⟩
    exact rmTo_other w s (B + 1 + n) (B + 1 + r) _ _ _ b h2 (by omega) (by omega) (fun q hq => by obtain ⟨i, hi, rfl⟩ := Option.map_eq_some_iff.1 hq; have := (hp i hi).1; omega)
      (fun q hq => by obtain ⟨i, hi, rfl⟩ := Option.map_eq_some_iff.1 hq; have := (hn i hi).1; omega)
end Go.Proofs.Ybulkxos
