/-
  THE ACCESSES IN MEMORY, for reading; and the walk of unvisited (12).
-/
import Derived.Test.YbulkxosCLk
import Derived.Test.YbulkxosCPl
import Derived.Deep.RegionWith
namespace Go.Proofs.Ybulkxos
open Go.RowKit
set_option linter.unusedVariables false
set_option linter.unusedSimpArgs false

/-- where the slices lie -/
structure AccM where
  la : Option Addr
  lb : Nat
  lc : Nat
  va : Nat → Nat → Option Addr
  vb : Nat → Nat → Nat
  vc : Nat → Nat → Nat
  ta : Nat → Option Addr
  tb : Nat → Nat
  tc : Nat → Nat

def accF (A N : Nat) (M : AccM) (j : Nat) : Value :=
  if j = 0 then .slice M.la N M.lc else if j = 1 then .slice (some ⟨A + 1, 0, none⟩) 4 4 else if j = 2 then .slice (some ⟨A + 2, 0, none⟩) 4 4 else .slice (some ⟨A + 3, 0, none⟩) 8 8

structure Acc (w : World) (A : Nat) (D : Dat) (M : AccM) : Prop where
  row : w.rowIs A 58 4 (accF A D.N M)
  obj : ∀ k, k < 2 → w.rowIs (A + 1 + k) 50 4 (fun o => .slice (M.va k o) (D.len k o) (M.vc k o))
  txn : w.rowIs (A + 3) 50 8 (fun t => .slice (M.ta t) (idx (D.inT t) D.N) (M.tc t))
  list : ∀ x, x < D.N → M.la = some ⟨M.lb, 0, none⟩ ∧ w.cell? ⟨M.lb, x * 5, none⟩ = some (.int .i32 (D.T x)) ∧ w.cell? ⟨M.lb, x * 5 + 1, none⟩ = some (.int .i32 (D.O x)) ∧
    w.cell? ⟨M.lb, x * 5 + 2, none⟩ = some (.bool (D.W x)) ∧ w.cell? ⟨M.lb, x * 5 + 3, none⟩ = some (.int .i32 (D.plc 0 x)) ∧ w.cell? ⟨M.lb, x * 5 + 4, none⟩ = some (.int .i32 (D.plc 1 x))
  objE : ∀ k o j, k < 2 → o < 4 → j < D.len k o → M.va k o = some ⟨M.vb k o, 0, none⟩ ∧ w.cell? ⟨M.vb k o, j, none⟩ = some (.int .i32 (nth (D.inL k o) D.N j))
  txnE : ∀ t j, t < 8 → j < idx (D.inT t) D.N → M.ta t = some ⟨M.tb t, 0, none⟩ ∧ w.cell? ⟨M.tb t, j, none⟩ = some (.int .i32 (nth (D.inT t) D.N j))
  tlt : ∀ x, x < D.N → D.T x < 8
  olt : ∀ x, x < D.N → D.O x < 4
  nle : D.N ≤ 1024

theorem Below.cell' {w w' : World} (h : Below w.heap.size w w') {a : Addr} {v : Value} (hc : w.cell? a = some v) : w'.cell? a = some v :=
  (h.cell (World.block_lt_of_cell? _ _ hc)).trans hc
theorem Below.row' {w w' : World} (h : Below w.heap.size w w') {b t n : Nat} {f : Nat → Value} (hr : w.rowIs b t n f) : w'.rowIs b t n f := hr.of_block (h.block _ hr.lt)

theorem Acc.below {w w' : World} {A : Nat} {D : Dat} {M : AccM} (a : Acc w A D M) (h : Below w.heap.size w w') : Acc w' A D M :=
  ⟨Below.row' h a.row, fun k hk => Below.row' h (a.obj k hk), Below.row' h a.txn, fun x hx => by
    obtain ⟨h1, h2, h3, h4, h5, h6⟩ := a.list x hx
    exact ⟨h1, Below.cell' h h2, Below.cell' h h3, Below.cell' h h4, Below.cell' h h5, Below.cell' h h6⟩,
   fun k o j hk ho hj => ⟨(a.objE k o j hk ho hj).1, Below.cell' h (a.objE k o j hk ho hj).2⟩, fun t j ht hj => ⟨(a.txnE t j ht hj).1, Below.cell' h (a.txnE t j ht hj).2⟩, a.tlt, a.olt, a.nle⟩

theorem Yba.info69 : (Yba.prog.info? 69).map (fun i => (i.zero, i.size, i.bytes)) = some (some (.slice none 0 0), 1, 24) := by kernel_rfl

/-- the rows of one list of records -/
def unRow (R k : Nat) (D : Dat) (o : Nat) : Value := .slice (some ⟨R + 3 + 5 * k + o, 0, none⟩) (D.len k o + 1) (D.len k o + 1)

/-- AT THE OUTER LOOP's HEAD: k lists of records are laid -/
structure U1 (w wr : World) (D : Dat) (k : Nat) : Prop where
  size : wr.heap.size = w.heap.size + 2 + 5 * k
  bel : Below w.heap.size w wr
  res : wr.rowIs w.heap.size 67 2 (fun _ => .slice none 0 0)
  left : wr.rowIs (w.heap.size + 1) 67 2 (fun j => if j < k then .slice (some ⟨w.heap.size + 2 + 5 * j, 0, none⟩) 4 4 else .slice none 0 0)
  rows : ∀ j, j < k → wr.rowIs (w.heap.size + 2 + 5 * j) 69 4 (unRow w.heap.size j D)
  links : ∀ j o, j < k → o < 4 → wr.rowIs (w.heap.size + 3 + 5 * j + o) 21 (D.len j o + 1) (i32row fun i => i)

/-- AT THE INNER LOOP's HEAD: in list k, o records are laid -/
structure U2 (w wr : World) (D : Dat) (k o : Nat) : Prop where
  size : wr.heap.size = w.heap.size + 3 + 5 * k + o
  bel : Below w.heap.size w wr
  res : wr.rowIs w.heap.size 67 2 (fun _ => .slice none 0 0)
  left : wr.rowIs (w.heap.size + 1) 67 2 (fun j => if j < k + 1 then .slice (some ⟨w.heap.size + 2 + 5 * j, 0, none⟩) 4 4 else .slice none 0 0)
  rows : ∀ j, j < k → wr.rowIs (w.heap.size + 2 + 5 * j) 69 4 (unRow w.heap.size j D)
  cur : wr.rowIs (w.heap.size + 2 + 5 * k) 69 4 (fun i => if i < o then unRow w.heap.size k D i else .slice none 0 0)
  links : ∀ j i, j < k → i < 4 → wr.rowIs (w.heap.size + 3 + 5 * j + i) 21 (D.len j i + 1) (i32row fun i => i)
  clinks : ∀ i, i < o → wr.rowIs (w.heap.size + 3 + 5 * k + i) 21 (D.len k i + 1) (i32row fun i => i)

theorem U1.start (w : World) (D : Dat) : U1 w ((w.alloc (.cells #[.slice none 0 0, .slice none 0 0] 67)).alloc (.cells #[.slice none 0 0, .slice none 0 0] 67)) D 0 := by
  have h1 := World.rowIs_alloc w #[.slice none 0 0, .slice none 0 0] 67 (fun _ => .slice none 0 0) (fun j hj => by simp at hj; match j, hj with | 0, _ => rfl | 1, _ => rfl)
  have h2 := World.rowIs_alloc (w.alloc (.cells #[.slice none 0 0, .slice none 0 0] 67)) #[.slice none 0 0, .slice none 0 0] 67 (fun _ => .slice none 0 0) (fun j hj => by simp at hj; match j, hj with | 0, _ => rfl | 1, _ => rfl)
  simp only [World.size_alloc] at h2
  exact ⟨by simp, ((Below.refl _ _).alloc (Nat.le_refl _) _).alloc (by simp) _, h1.alloc _, h2.congr (fun j _ => by simp), fun j hj => absurd hj (by omega), fun j o hj => absurd hj (by omega)⟩

theorem U1.step {w wr : World} {D : Dat} {k : Nat} (h : U1 w wr D k) :
    U2 w ((wr.setCell ⟨w.heap.size + 1, k, none⟩ (.slice (some ⟨wr.heap.size, 0, none⟩) 4 4)).alloc (.cells (madeCells #[.slice none 0 0] 4) 69)) D k 0 := by
  have hz := h.size
  have hnew := World.rowIs_made (wr.setCell ⟨w.heap.size + 1, k, none⟩ (.slice (some ⟨wr.heap.size, 0, none⟩) 4 4)) (.slice none 0 0) 4 69
  simp only [World.size_setCell] at hnew
  rw [hz] at hnew ⊢
  refine ⟨by simp [hz]; omega, (h.bel.setCell (by show w.heap.size ≤ w.heap.size + 1; omega) _).alloc (by simp [hz]; omega) _, (h.res.setOther (by show w.heap.size ≠ w.heap.size + 1; omega) _).alloc _,
    ((h.left.set k _).congr (fun j _ => ?_)).alloc _, fun j hj => ((h.rows j hj).setOther (by show w.heap.size + 2 + 5 * j ≠ w.heap.size + 1; omega) _).alloc _,
    hnew.congr (fun j _ => by simp), fun j i hj hi => ((h.links j i hj hi).setOther (by show w.heap.size + 3 + 5 * j + i ≠ w.heap.size + 1; omega) _).alloc _, fun i hi => absurd hi (by omega)⟩
  by_cases e : j = k
  · subst e
    rw [if_pos rfl, if_pos (by omega)]
  · rw [if_neg e]
    by_cases g : j < k
    · rw [if_pos g, if_pos (by omega)]
    · rw [if_neg g, if_neg (by omega)]

theorem U2.step {w wr w' : World} {D : Dat} {k o : Nat} (h : U2 w wr D k o) (ho : o < 4) (hb : Below wr.heap.size wr w') (hz' : w'.heap.size = wr.heap.size + 1) (hrow : w'.rowIs wr.heap.size 21 (D.len k o + 1) (i32row fun i => i)) :
    U2 w (w'.setCell ⟨w.heap.size + 2 + 5 * k, o, none⟩ (.slice (some ⟨wr.heap.size, 0, none⟩) (D.len k o + 1) (D.len k o + 1))) D k (o + 1) := by
  have hz := h.size
  have up : ∀ {b t n : Nat} {f : Nat → Value}, wr.rowIs b t n f → w'.rowIs b t n f := fun hr => Below.row' hb hr
  rw [hz] at hrow
  refine ⟨by simp [hz', hz]; omega, ((h.bel.trans (hb.mono (by omega)))).setCell (by show w.heap.size ≤ w.heap.size + 2 + 5 * k; omega) _, (up h.res).setOther (by show w.heap.size ≠ w.heap.size + 2 + 5 * k; omega) _,
    (up h.left).setOther (by show w.heap.size + 1 ≠ w.heap.size + 2 + 5 * k; omega) _, fun j hj => (up (h.rows j hj)).setOther (by show w.heap.size + 2 + 5 * j ≠ w.heap.size + 2 + 5 * k; omega) _,
    ((up h.cur).set o _).congr (fun i _ => ?_), fun j i hj hi => (up (h.links j i hj hi)).setOther (by show w.heap.size + 3 + 5 * j + i ≠ w.heap.size + 2 + 5 * k; omega) _, fun i hi => ?_⟩
  · by_cases e : i = o
    · subst e
      rw [if_pos rfl, if_pos (by omega), hz]
      rfl
    · rw [if_neg e]
      by_cases g : i < o
      · rw [if_pos g, if_pos (by omega)]
      · rw [if_neg g, if_neg (by omega)]
  · by_cases e : i = o
    · subst e
      exact hrow.setOther (by show w.heap.size + 3 + 5 * k + i ≠ w.heap.size + 2 + 5 * k; omega) _
    · exact (up (h.clinks i (by omega))).setOther (by show w.heap.size + 3 + 5 * k + i ≠ w.heap.size + 2 + 5 * k; omega) _

theorem U2.done {w wr : World} {D : Dat} {k : Nat} (h : U2 w wr D k 4) : U1 w wr D (k + 1) :=
  ⟨by rw [h.size]; omega, h.bel, h.res, h.left, fun j hj => by
    by_cases e : j = k
    · subst e; exact h.cur.congr (fun i hi => by rw [if_pos hi])
    · exact h.rows j (by omega), fun j o hj ho => by
    by_cases e : j = k
    · subst e; exact h.clinks o ho
    · exact h.links j o (by omega) ho⟩

/-- THE SAME over a world behind draws -/
theorem U2.drew {w wr : World} {D : Dat} {k o : Nat} (h : U2 w wr D k o) : U2 w wr.drew D k o := ⟨h.size, h.bel.drew, h.res, h.left, h.rows, h.cur, h.links, h.clinks⟩

set_option maxHeartbeats 1000000 in
theorem unv_any (A : Nat) (D : Dat) (M : AccM) (w : World) (ha : Acc w A D M) :
    Calls Yba.prog 12 #[.pointer (some ⟨A, 0, none⟩)] w fun e w' => e = .returned (.agg #[.slice (some ⟨w.heap.size + 2, 0, none⟩) 4 4, .slice (some ⟨w.heap.size + 7, 0, none⟩) 4 4]) ∧
      Below w.heap.size w w' ∧ w'.heap.size = w.heap.size + 12 ∧ (∀ k, k < 2 → w'.rowIs (w.heap.size + 2 + 5 * k) 69 4 (unRow w.heap.size k D)) ∧ ∀ k o, k < 2 → o < 4 → w'.rowIs (w.heap.size + 3 + 5 * k + o) 21 (D.len k o + 1) (i32row fun i => i) := by
  have hmk : ∀ W : World, (Instr.makeSlice 66 (.int .i64 4) (.int .i64 4)).run Yba.prog W = .ok (.slice (some ⟨W.heap.size, 0, none⟩) 4 4) (W.alloc (.cells (madeCells #[.slice none 0 0] 4) 69)) :=
    run_make_row' (P := Yba.prog) 66 69 (.slice none 0 0) 24 Yba.underlying66 Yba.info69 rfl .i64 .i64 4 (by omega) (by omega)
  have c1 := ha.row.cell (i := 1) (by omega)
  have c2 := ha.row.cell (i := 2) (by omega)
  simp only [accF, show ¬ (1 : Nat) = 0 by omega, show ¬ (2 : Nat) = 0 by omega, show ¬ (2 : Nat) = 1 by omega, if_true, if_false] at c1 c2
  have i0 : ∀ W, (Instr.index 56 (.agg #[.slice (some ⟨A + 1, 0, none⟩) 4 4, .slice (some ⟨A + 2, 0, none⟩) 4 4]) (.int .i64 0)).run Yba.prog W = .ok (.slice (some ⟨A + 1, 0, none⟩) 4 4) W := fun _ => by kernel_rfl
  have i1 : ∀ W, (Instr.index 56 (.agg #[.slice (some ⟨A + 1, 0, none⟩) 4 4, .slice (some ⟨A + 2, 0, none⟩) 4 4]) (.int .i64 1)).run Yba.prog W = .ok (.slice (some ⟨A + 2, 0, none⟩) 4 4) W := fun _ => by kernel_rfl
  have hA := ha.row.lt
  have c1' : ∀ o, (w.alloc o).cell? ⟨A, 1, none⟩ = some (.slice (some ⟨A + 1, 0, none⟩) 4 4) := fun o => (World.cell?_alloc_lt _ _ _ hA).trans c1
  go_enter Yba.func12, Yba.ntmps12
  go_wp2
  clear c1'
  go_loopw [12] (fun x wr => ∃ k : Nat, k ≤ 2 ∧ x = .int .i64 k ∧ Hid (U1 w wr D k)) (fun x _ => 2 - (intOf x).toNat)
  case atStart => exact ⟨0, by omega, rfl, U1.start w D⟩
  case round =>
    obtain ⟨k, hk, rfl, hU⟩ := hrel
    by_cases hlt : k < 2
    · have hik : ∀ W, (Instr.index 56 (.agg #[.slice (some ⟨A + 1, 0, none⟩) 4 4, .slice (some ⟨A + 2, 0, none⟩) 4 4]) (.int .i64 k)).run Yba.prog W = .ok (.slice (some ⟨A + 1 + k, 0, none⟩) 4 4) W := by
        obtain rfl | rfl : k = 0 ∨ k = 1 := by omega
        · exact i0
        · exact i1
      have hl := hU.out.left.cell (i := k) hlt
      have hlf := hU.out.left.frozen k
      have hll := hU.out.left.lt
      clear i0 i1
      have hkk : (k : Int) < 2 := by omega
      go_wp2
      clear hmk hik hl hlf hll
      have hU2 := hU.out.step
      clear hU
      go_loopw [23] (fun x wi => ∃ o : Nat, o ≤ 4 ∧ x = .int .i64 o ∧ Hid (U2 w wi D k o)) (fun x _ => 4 - (intOf x).toNat)
      case atStart => exact ⟨0, by omega, rfl, hU2⟩
      case round =>
        clear hU2
        obtain ⟨o, ho, rfl, hV⟩ := hrel
        by_cases hlo : o < 4
        · have hob := Below.row' hV.out.bel (ha.obj k hlt)
          have hoc := hob.cell hlo
          have hleft := hV.out.left.cell (i := k) hlt
          rw [if_pos (by omega)] at hleft
          have hcur := hV.out.cur.cell hlo
          have hcurf := hV.out.cur.frozen o
          have hcl := hV.out.cur.lt
          have hlen : D.len k o ≤ 1024 := Nat.le_trans (idx_le _ _) ha.nle
          clear hob
          go_wp2
          go_region_with (go_at_call 18; refine (newUn_any (D.len k o) _ (by omega)).mono ?_; rintro e w' ⟨rfl, hrow, hb, hz'⟩; have q1 := Below.cell' hb hleft; have q2 := Below.cell' hb hcur; have q3 : w'.frozen? ⟨w.heap.size + 2 + 5 * k, o, none⟩ = false := (hb.frozen (p := ⟨w.heap.size + 2 + 5 * k, o, none⟩) hcl).trans hcurf)
          all_goals
            go_wp2
            go_roundw
            case rel => exact ⟨o + 1, by omega, by go_num, hV.out.drew.step hlo hb hz' hrow⟩
            case measure => simp [intOf]; omega
        · obtain rfl : o = 4 := by omega
          have hU3 := hV.out.done
          clear hV
          go_wp2
          go_roundw
          case rel => exact ⟨k + 1, by omega, by go_num, hU3⟩
          case measure => simp [intOf]; omega
    · obtain rfl : k = 2 := by omega
      have hl0 := hU.out.left.cell (i := 0) (by omega)
      have hl1 := hU.out.left.cell (i := 1) (by omega)
      simp only [show (0 : Nat) < 2 by omega, show (1 : Nat) < 2 by omega, if_true] at hl0 hl1
      have hr0 := hU.out.res.cell (i := 0) (by omega)
      have hr1 := hU.out.res.cell (i := 1) (by omega)
      have hf0 := hU.out.res.frozen 0
      have hf1 := hU.out.res.frozen 1
      go_wp2
      refine bodyPost_ret (v := .agg #[.slice (some ⟨w.heap.size + 2, 0, none⟩) 4 4, .slice (some ⟨w.heap.size + 7, 0, none⟩) 4 4]) ?_ rfl ⟨rfl, ?_, ?_, ?_, ?_⟩
      · simp [results, Yba.results12, go_sem, hr0, hr1, hf0, hf1]
      · exact (hU.out.bel.setCell (Nat.le_refl _) _).setCell (Nat.le_refl _) _
      · simp [hU.out.size]
      · intro k hk
        exact ((hU.out.rows k hk).setOther (by show w.heap.size + 2 + 5 * k ≠ w.heap.size; omega) _).setOther (by show w.heap.size + 2 + 5 * k ≠ w.heap.size; omega) _
      · intro k o hk ho
        exact ((hU.out.links k o hk ho).setOther (by show w.heap.size + 3 + 5 * k + o ≠ w.heap.size; omega) _).setOther (by show w.heap.size + 3 + 5 * k + o ≠ w.heap.size; omega) _
end Go.Proofs.Ybulkxos
