/-
  FROM THE LISTED TABLE 'kinds' TO ITS CELLS; the door's own heap meets the condition; the variable read again.
-/
import Derived.Test.YbulkxosDoorRows
import Derived.Test.YbulkxosDoorLk
import Derived.ProofKit
import Derived.LaidMore
import Derived.OpenShut
import Derived.Stop.Joined
import Derived.ChangeOld
import Derived.Below
namespace Go.Proofs.YbulkxosDoor
open Go.ChangeShapes Go.WideShapes Go.ChangeAt Go.RowKit

/-- the listed variable's name, and what is listed -/
abbrev kn : String := Rows.lawS1188BTableSpec.vars.headD ""
abbrev laid1 : List (String × DataW Unit) := [(kn, Rows.laid_example_com_interlace_interlace_schedule_kinds)]

theorem own : ownKnob Ybad.prog.godebug = none := by kernel_rfl
theorem laidOut : laidOutB Ybad.prog = true := by kernel_rfl
theorem gK : Ybad.prog.globalNamed kn = some 0 := by kernel_rfl
theorem tK : (Ybad.prog.globals[0]?).map (·.type) = some 30 := by kernel_rfl
theorem cells30 : Ybad.prog.cellsOf 30 = 48 := by kernel_rfl
theorem cells29 : Ybad.prog.cellsOf 29 = 4 := by kernel_rfl
theorem cells4 : Ybad.prog.cellsOf 4 = 1 := by kernel_rfl
theorem cells24 : Ybad.prog.cellsOf 24 = 1 := by kernel_rfl

/-- The door's own heap meets the condition: three closed facts. -/
theorem door_met (os : Os) (args : Array Value) : laidMetH Ybad.prog laid1 ((World.doorLaid Ybad.prog 36 os).forCall (fun _ _ => 0) ⟨#[], args, []⟩).memory :=
  laidMetH_of_parts3 (fuel := 8) (laidMet_of_run' 8 (by kernel_rfl) (by kernel_rfl)) (by kernel_rfl) (by kernel_rfl)

/-- one element of the table: its two cells that are read -/
theorem elem_cells {H : Type} {enc : TypeId × Value → H} {W : World} {base : Nat} {sp : Nat → Bool} {held : Bool} {fuel : Nat} {cs : List Value} {x : DataW H × List MemPlace} {a b : DataW H} {l : Bool} {m : Int}
    (h : DataW.trod enc Ybad.prog W base sp held fuel 29 cs = some x) (hx : x.1 = .agg [a, b, .lit (.bool l), .lit (.int .u8 m)]) : cs[2]? = some (.bool l) ∧ cs[3]? = some (.int .u8 m) := by
  obtain ⟨ys, n, rfl, rfl, hlen, hys, hf⟩ := DataW.trod_struct Ybad.underlying29 h
  simp only [DataW.agg.injEq] at hx
  rw [cells29] at hlen
  match ys, hys, hx, hf with
  | [y0, y1, y2, y3], _, hx, hf =>
    simp only [List.map_cons, List.map_nil, List.cons.injEq] at hx
    match cs, hlen with
    | [c0, c1, c2, c3], _ =>
      have h2 : DataW.trod enc Ybad.prog W base sp held n 4 (List.take (Ybad.prog.cellsOf 4) [c2, c3]) = some y2 := hf 2 _ rfl
      have h3 : DataW.trod enc Ybad.prog W base sp held n 24 (List.take (Ybad.prog.cellsOf 24) [c3]) = some y3 := hf 3 _ rfl
      rw [cells4] at h2
      rw [cells24] at h3
      obtain ⟨bb, e1, e2⟩ := DataW.trod_bool Ybad.underlying4 (show DataW.trod enc Ybad.prog W base sp held n 4 [c2] = some y2 from h2)
      obtain ⟨nn, e3, e4, _⟩ := DataW.trod_int Ybad.underlying24 (show DataW.trod enc Ybad.prog W base sp held n 24 [c3] = some y3 from h3)
      have q2 := hx.2.2.1
      have q3 := hx.2.2.2.1
      rw [e2] at q2
      rw [e4] at q3
      simp only [List.cons.injEq, and_true] at e1 e3
      simp only [DataW.lit.injEq, Lit.bool.injEq, Lit.int.injEq, true_and] at q2 q3
      subst e1 e3 q2 q3
      exact ⟨rfl, rfl⟩

/-- WHAT THE CONDITION GIVES THE WALKS -/
theorem of_laid {W : World} (h : laidMetH Ybad.prog laid1 W) : Tab W := by
  rw [MakeChecks.laidMetH_plain _ _ _ (by kernel_rfl)] at h
  obtain ⟨ps, ⟨g0, t0, cs0, f0, p0, q0, hg0, ht0, hv0, hd0, _, _⟩, _, _⟩ := h
  obtain rfl := Option.some.inj (gK.symm.trans hg0)
  obtain rfl := Option.some.inj (tK.symm.trans ht0)
  obtain ⟨xs, m1, rfl, hx1, hlen, hn12, hel⟩ := DataW.trod_array Ybad.underlying30 hd0
  simp only [Prod.mk.injEq] at hx1
  have hx := hx1.1
  clear hx1 hd0
  unfold Rows.laid_example_com_interlace_interlace_schedule_kinds at hx
  simp only [DataW.agg.injEq] at hx
  rw [cells29] at hel
  have key : ∀ k, k < 12 → ∀ (a b : DataW Unit) (l : Bool) (m : Int), (xs.map (·.1))[k]? = some (.agg [a, b, .lit (.bool l), .lit (.int .u8 m)]) → W.cell? ⟨0, k * 4 + 2, none⟩ = some (.bool l) ∧ W.cell? ⟨0, k * 4 + 3, none⟩ = some (.int .u8 m) := by
    intro k hk a b l m e
    rw [List.getElem?_map, Option.map_eq_some_iff] at e
    obtain ⟨x, e1, e2⟩ := e
    obtain ⟨r2, r3⟩ := elem_cells ((hel k hk).trans e1) e2
    rw [List.getElem?_take_of_lt (by omega), List.getElem?_drop] at r2 r3
    have v2 := World.var?_cell hg0 hv0 (k * 4 + 2)
    have v3 := World.var?_cell hg0 hv0 (k * 4 + 3)
    rw [Array.getElem?_toList] at r2 r3
    exact ⟨v2.trans r2, v3.trans r3⟩
  rw [← hx] at key
  intro k hk
  match k, hk with
  | 0, hk => exact key 0 hk _ _ _ _ rfl
  | 1, hk => exact key 1 hk _ _ _ _ rfl
  | 2, hk => exact key 2 hk _ _ _ _ rfl
  | 3, hk => exact key 3 hk _ _ _ _ rfl
  | 4, hk => exact key 4 hk _ _ _ _ rfl
  | 5, hk => exact key 5 hk _ _ _ _ rfl
  | 6, hk => exact key 6 hk _ _ _ _ rfl
  | 7, hk => exact key 7 hk _ _ _ _ rfl
  | 8, hk => exact key 8 hk _ _ _ _ rfl
  | 9, hk => exact key 9 hk _ _ _ _ rfl
  | 10, hk => exact key 10 hk _ _ _ _ rfl
  | 11, hk => exact key 11 hk _ _ _ _ rfl

/-- the variable reads behind a call that has turned nothing as it did -/
theorem vars_same {H : Type} {enc : TypeId × Value → H} {W : World} {gs : List (DataW H)} {q : List MemPlace} (hV : DataW.TrodVars enc Ybad.prog W (fun _ => true) [kn] gs q) (hlt : ∀ x ∈ q, x.block < W.heap.size) :
    ∃ g, gs = [g] ∧ DataW.TrodVars enc Ybad.prog W (fun b => decide (b < W.heap.size)) [kn] [g] q := by
  obtain ⟨g, t, cs, fuel, d, p', rfl, hg, ht, hvar, hd, rfl⟩ := trodVars_one hV
  obtain rfl := Option.some.inj (gK.symm.trans hg)
  obtain rfl := Option.some.inj (tK.symm.trans ht)
  have hT : DataW.Trod enc Ybad.prog W 0 (fun _ => true) true 30 (.agg cs) d p' := ⟨fuel, hd⟩
  obtain ⟨fuel', hd'⟩ := Below.trod laidOut (by kernel_rfl) (of_decide_eq_true (by kernel_rfl)) hT (Below.refl _ _) (fun x hx => hlt x (List.mem_append_right _ hx))
  exact ⟨d, rfl, trodVars_mk1 hg ht hvar hd'⟩
end Go.Proofs.YbulkxosDoor
