/-
  THE SEARCH's STATE IN MEMORY: dist, queue, the records of what is left; the law of 'queue = append(queue, v)'; the walk of the closure reach (13).
-/
import Derived.Test.YbulkxosCAcc
import Derived.Deep.RegionHeld3
import Derived.Laws.IdiomCopy
namespace Go.Proofs.Ybulkxos
open Go.RowKit
set_option linter.unusedVariables false
set_option linter.unusedSimpArgs false

/-- the queue's value: nil, or a stretch of a row of the search's own -/
def QOk (w : World) (Bq : Nat) (qv : Value) (qs : List Nat) : Prop :=
  (qv = .slice none 0 0 ∧ qs = []) ∨
  ∃ g off cap cur, qv = .slice (some ⟨g, off, none⟩) qs.length cap ∧ Bq ≤ g ∧ w.heap[g]? = some (.cells cur 21 (0, 0)) ∧ qs.length ≤ cap ∧ off + cap ≤ cur.size ∧ ∀ j, j < qs.length → cur[off + j]? = some (.int .i32 (qs.getD j 0 : Nat))

theorem QOk.keep {w w' : World} {Bq : Nat} {qv : Value} {qs : List Nat} (h : QOk w Bq qv qs) (e : ∀ k, Bq ≤ k → k < w.heap.size → w'.heap[k]? = w.heap[k]?) : QOk w' Bq qv qs := by
  rcases h with h | ⟨g, off, cap, cur, h1, h2, h3, h4⟩
  · exact .inl h
  · exact .inr ⟨g, off, cap, cur, h1, h2, (e g h2 (Array.getElem?_eq_some_iff.1 h3).1).trans h3, h4⟩

theorem QOk.cell {w : World} {Bq : Nat} {g off n cap : Nat} {qs : List Nat} (h : QOk w Bq (.slice (some ⟨g, off, none⟩) n cap) qs) : n = qs.length ∧ Bq ≤ g ∧ qs.length ≤ cap ∧ (∀ j, j < qs.length → w.cell? ⟨g, off + j, none⟩ = some (.int .i32 (qs.getD j 0 : Nat))) ∧
    (∀ j, j < cap → (w.cell? ⟨g, off + j, none⟩).isSome = true ∧ w.frozen? ⟨g, off + j, none⟩ = false) := by
  rcases h with ⟨h, _⟩ | ⟨g', off', cap', cur, h1, h2, h3, h4, h5, h6⟩
  · cases h
  · cases h1
    refine ⟨rfl, h2, h4, fun j hj => ?_, fun j hj => ⟨?_, ?_⟩⟩
    · simp [World.cell?, h3, h6 j hj]
    · have : off + j < cur.size := by omega
      simp [World.cell?, h3, this]
    · simp [World.frozen?, h3]

/-- 'append(queue, v)' -/
theorem run_append_q (w : World) (Bq : Nat) (qv : Value) (qs : List Nat) (v : Nat) (ty : TypeId) (h : QOk w Bq qv qs) (hB : Bq ≤ w.heap.size) (hq : qs.length ≤ 1000) :
    ∃ g off cap w', (Builtin.append_ #[50, 50] ty #[qv, .slice (some ⟨w.heap.size, 0, none⟩) 1 1]).run Yba.prog (w.alloc (.cells #[.int .i32 v] 21)) = .ok (.slice (some ⟨g, off, none⟩) (qs.length + 1) cap) w' ∧
      QOk w' Bq (.slice (some ⟨g, off, none⟩) (qs.length + 1) cap) (qs ++ [v]) ∧ Below Bq w w' := by
  obtain ⟨i0, hi, hz0, hz1, hz2⟩ := info_parts Yba.info21
  have hW := h.keep (w' := w.alloc (.cells #[.int .i32 v] 21)) (fun k _ hk => Deep.blk_alloc_lt _ _ _ hk)
  have hbel : Below Bq w (w.alloc (.cells #[.int .i32 v] 21)) := (Below.refl _ _).alloc hB _
  have hnews := cell_one_new w (.int .i32 v) 21
  have hsz : (w.alloc (.cells #[.int .i32 v] 21)).heap.size = w.heap.size + 1 := by simp
  generalize w.alloc (.cells #[.int .i32 v] 21) = W at *
  -- what a new row gives
  have grown : ∀ (v' : Value) (w' : World), w'.ownsRow W.heap.size 21 1 v' (qs.length + 1) ((qs.map fun (x : Nat) => Value.int .i32 x) ++ [.int .i32 v]) → W.grownBy w' none → ∃ g off cap, v' = .slice (some ⟨g, off, none⟩) (qs.length + 1) cap ∧ QOk w' Bq v' (qs ++ [v]) ∧ Below Bq w w' := by
    intro v' w' ho hg
    rcases ho.2 with ⟨_, h0⟩ | ⟨g, cap, cur, rfl, h1, h2, h3, h4, h5, h6⟩
    · omega
    · refine ⟨g, 0, cap, rfl, .inr ⟨g, 0, cap, cur, by simp, by omega, h2, by simp; omega, by omega, fun j hj => ?_⟩, hbel.grown hg (by omega) (fun k hk => by cases hk)⟩
      have e1 : cur[0 + j]? = (cur.toList.take ((qs.length + 1) * 1))[j]? := by
        simp at hj
        rw [List.getElem?_take_of_lt (by omega)]
        simp
      rw [e1, h6]
      simp at hj
      by_cases e : j < qs.length
      · rw [List.getElem?_append_left (by simpa using e)]
        simp [e, List.getD_eq_getElem?_getD, List.getElem?_append_left e]
      · obtain rfl : j = qs.length := by omega
        rw [List.getElem?_append_right (by simp)]
        simp [List.getD_eq_getElem?_getD]
  rcases hW with ⟨rfl, rfl⟩ | ⟨g, off, cap, cur, rfl, h2, h3, h4, h5, h6⟩
  · obtain ⟨v', w', hrun, r1, r2, _⟩ := run_append_own (P := Yba.prog) W W.heap.size 50 ty 21 i0 (.int .i32 0) 1 4 Yba.underlying50 hi hz0 hz1 hz2 rfl (by decide) (.slice none 0 0) 0 [] (World.ownsRow_nil W _ 21 1) ⟨w.heap.size, 0, none⟩ 1 1 [.int .i32 v] rfl hnews (by intro u hu; simp at hu; subst hu; rfl) (by unfold maxLen; omega) (by omega) (Nat.le_refl _)
    obtain ⟨g, off, cap, rfl, q1, q2⟩ := grown v' w' (by simpa using r1) (by simpa [Value.ownBlock] using r2)
    exact ⟨g, off, cap, w', hrun, q1, q2⟩
  · by_cases hroom : qs.length + 1 ≤ cap
    · have hrun := run_append_room_cells (P := Yba.prog) W 50 ty 21 i0 Yba.underlying50 hi g off qs.length cap ⟨w.heap.size, 0, none⟩ 1 1 [.int .i32 v] (by rw [hz1]; rfl) hnews (by intro u hu; simp at hu; subst hu; rfl) hroom
        (fun j hj => by simp at hj; subst hj; rw [hz1]; have : off + qs.length < cur.size := by omega
                        simp [World.cell?, h3, this]) (fun j hj => by simp [World.frozen?, h3])
      refine ⟨g, off, cap, _, hrun, .inr ⟨g, off, cap, cur.setIfInBounds (off + qs.length) (.int .i32 v), by simp, h2, ?_, by simpa using hroom, by simpa using h5, fun j hj => ?_⟩, ?_⟩
      · rw [hz1]
        simp [World.setCells, World.setCell, Array.getElem?_modify, h3]
      · rw [Array.getElem?_setIfInBounds]
        simp at hj
        by_cases e : j = qs.length
        · subst e
          rw [if_pos rfl, if_pos (by omega)]
          simp [List.getD_eq_getElem?_getD]
        · rw [if_neg (by omega), h6 j (by omega)]
          simp [List.getD_eq_getElem?_getD, List.getElem?_append_left (show j < qs.length by omega)]
      · exact hbel.trans ((Below.refl _ _).setCell (by exact h2) _)
    · obtain ⟨v', w', hrun, r1, r2⟩ := run_append_arg_grows (P := Yba.prog) W 50 ty 21 i0 (.int .i32 0) 1 4 Yba.underlying50 hi hz0 hz1 hz2 rfl (by decide) ⟨g, off, none⟩ qs.length cap (qs.map fun (x : Nat) => Value.int .i32 x) (by simp)
        (fun j u hu => by
          simp at hu
          obtain ⟨x, hx, rfl⟩ := hu
          have hj : j < qs.length := (List.getElem?_eq_some_iff.1 hx).1
          have := h6 j hj
          rw [Addr.add_lit]
          simp [World.cell?, h3, this, List.getD_eq_getElem?_getD, hx]) ⟨w.heap.size, 0, none⟩ 1 1 [.int .i32 v] rfl hnews (by omega) (by unfold maxLen; omega) (by omega)
      obtain ⟨g, off, cap, rfl, q1, q2⟩ := grown v' w' r1 r2
      exact ⟨g, off, cap, w', hrun, q1, q2⟩

/-- .. as a law for the walk -/
theorem wpList_append_q (w : World) {ops : Array Oper} {rest : List Oper} {o : Oper} {a : Act} {Q : Exit → Act → World → Prop}
    (hg : o.guard = none) (s x : Operand) (hop : o.op = Op.call { callee := Callee.builtin Builtin.append, args := #[s, x], argTypes := #[50, 50] })
    (Bq : Nat) (qv : Value) (qs : List Nat) (v : Nat) (h : QOk w Bq qv qs) (hB : Bq ≤ w.heap.size) (hq : qs.length ≤ 1000)
    (zb : Nat) (hzb : zb = w.heap.size) (hs : a.eval s = qv) (hx : a.eval x = .slice (some ⟨zb, 0, none⟩) 1 1)
    (hK : ∀ g off cap w', QOk w' Bq (.slice (some ⟨g, off, none⟩) (qs.length + 1) cap) (qs ++ [v]) → Below Bq w w' → wpList Yba.prog ops Q rest (a.put o.dst (.slice (some ⟨g, off, none⟩) (qs.length + 1) cap)) w') :
    wpList Yba.prog ops Q (o :: rest) a (w.alloc (.cells #[.int .i32 v] 21)) := by
  subst hzb
  refine wpList_plain hg fun K hK' => ?_
  obtain ⟨g, off, cap, w', hrun, r1, r2⟩ := run_append_q w Bq qv qs v o.type h hB hq
  unfold Oper.wp
  simp [execOp, hop, resolve, invoke, builtin, hs, hx, hrun, Result.andThen]
  exact hK' _ _ (hK g off cap w' r1 r2)

structure BS (w0 ws : World) (A : Nat) (D : Dat) (M : AccM) (dist : Nat → Int) (qs : List Nat) (V : Nat → Nat → Nat → Prop) : Prop where
  bel : Below w0.heap.size w0 ws
  ax : ws.rowIs w0.heap.size 48 1 (fun _ => .pointer (some ⟨A, 0, none⟩))
  di : ws.rowIs (w0.heap.size + 1) 21 8 (fun v => .int .i32 (dist v))
  dv : ws.rowIs (w0.heap.size + 2) 50 1 (fun _ => .slice (some ⟨w0.heap.size + 1, 0, none⟩) 8 8)
  lv : ws.rowIs (w0.heap.size + 15) 67 2 (fun k => .slice (some ⟨w0.heap.size + 5 + 5 * k, 0, none⟩) 4 4)
  rows : ∀ k, k < 2 → ws.rowIs (w0.heap.size + 5 + 5 * k) 69 4 (unRow (w0.heap.size + 3) k D)
  links : ∀ k o, k < 2 → o < 4 → ∃ L, ws.rowIs (w0.heap.size + 6 + 5 * k + o) 21 (D.len k o + 1) (i32row L) ∧ LinkOk (D.len k o) (V k o) L
  q : ∃ qv, ws.rowIs (w0.heap.size + 16) 50 1 (fun _ => qv) ∧ QOk ws (w0.heap.size + 17) qv qs
  size : w0.heap.size + 17 ≤ ws.heap.size

namespace BS
variable {w0 ws : World} {A : Nat} {D : Dat} {M : AccM} {dist : Nat → Int} {qs : List Nat} {V : Nat → Nat → Nat → Prop}

/-- whatever leaves the state's own blocks as they are -/
theorem keep {w' : World} (h : BS w0 ws A D M dist qs V) (hb : Below ws.heap.size ws w') : BS w0 w' A D M dist qs V :=
  ⟨h.bel.trans (hb.mono (by have := h.size; omega)), Below.row' hb h.ax, Below.row' hb h.di, Below.row' hb h.dv, Below.row' hb h.lv, fun k hk => Below.row' hb (h.rows k hk), fun k o hk ho => by
    obtain ⟨L, h1, h2⟩ := h.links k o hk ho
    exact ⟨L, Below.row' hb h1, h2⟩, by
    obtain ⟨qv, h1, h2⟩ := h.q
    exact ⟨qv, Below.row' hb h1, h2.keep (fun k _ hk => hb.block k hk)⟩, Nat.le_trans h.size hb.size⟩
theorem alloc (h : BS w0 ws A D M dist qs V) (o : Obj) : BS w0 (ws.alloc o) A D M dist qs V := h.keep ((Below.refl _ _).alloc (Nat.le_refl _) _)
theorem drewN (h : BS w0 ws A D M dist qs V) (n : Nat) : BS w0 (ws.drewN n) A D M dist qs V := h.keep ⟨rfl, rfl, rfl, Nat.le_refl _, fun _ _ => rfl⟩
theorem drew (h : BS w0 ws A D M dist qs V) : BS w0 ws.drew A D M dist qs V := h.drewN 1

theorem congrV {V' : Nat → Nat → Nat → Prop} (h : BS w0 ws A D M dist qs V) (e : ∀ k o j, k < 2 → o < 4 → j < D.len k o → (V k o j ↔ V' k o j)) : BS w0 ws A D M dist qs V' :=
  ⟨h.bel, h.ax, h.di, h.dv, h.lv, h.rows, fun k o hk ho => by
    obtain ⟨L, h1, h2⟩ := h.links k o hk ho
    exact ⟨L, h1, h2.congr (fun j hj => e k o j hk ho hj)⟩, h.q, h.size⟩

/-- dist[v] = d -/
theorem setD (h : BS w0 ws A D M dist qs V) (v : Nat) (d : Int) : BS w0 (ws.setCell ⟨w0.heap.size + 1, v, none⟩ (.int .i32 d)) A D M (fun x => if x = v then d else dist x) qs V := by
  have hs := h.size
  refine ⟨h.bel.setCell (by show w0.heap.size ≤ w0.heap.size + 1; omega) _, h.ax.setOther (by show w0.heap.size ≠ w0.heap.size + 1; omega) _, (h.di.set v _).congr (fun j _ => by by_cases e : j = v <;> simp [e]), h.dv.setOther (by show w0.heap.size + 2 ≠ w0.heap.size + 1; omega) _,
    h.lv.setOther (by show w0.heap.size + 15 ≠ w0.heap.size + 1; omega) _, fun k hk => (h.rows k hk).setOther (by show w0.heap.size + 5 + 5 * k ≠ w0.heap.size + 1; omega) _, fun k o hk ho => ?_, ?_, by simpa using hs⟩
  · obtain ⟨L, h1, h2⟩ := h.links k o hk ho
    exact ⟨L, h1.setOther (by show w0.heap.size + 6 + 5 * k + o ≠ w0.heap.size + 1; omega) _, h2⟩
  · obtain ⟨qv, h1, h2⟩ := h.q
    exact ⟨qv, h1.setOther (by show w0.heap.size + 16 ≠ w0.heap.size + 1; omega) _, h2.keep (fun k hk _ => Deep.blk_setCell_other _ _ _ _ (by show k ≠ w0.heap.size + 1; omega))⟩

/-- the queue's new value is stored; ahead of it nothing but the queue's own row has turned -/
theorem setQ {w' : World} {qs' : List Nat} {qv' : Value} (h : BS w0 ws A D M dist qs V) (hb : Below (w0.heap.size + 17) ws w') (hq : QOk w' (w0.heap.size + 17) qv' qs') : BS w0 (w'.setCell ⟨w0.heap.size + 16, 0, none⟩ qv') A D M dist qs' V := by
  have hs := h.size
  have hsz := hb.size
  have up : ∀ {b t n : Nat} {f : Nat → Value}, b < w0.heap.size + 17 → ws.rowIs b t n f → w'.rowIs b t n f := fun hlt hr => hr.of_block (hb.block _ hlt)
  refine ⟨(h.bel.trans (hb.mono (by omega))).setCell (by show w0.heap.size ≤ w0.heap.size + 16; omega) _, (up (by omega) h.ax).setOther (by show w0.heap.size ≠ w0.heap.size + 16; omega) _, (up (by omega) h.di).setOther (by show w0.heap.size + 1 ≠ w0.heap.size + 16; omega) _,
    (up (by omega) h.dv).setOther (by show w0.heap.size + 2 ≠ w0.heap.size + 16; omega) _, (up (by omega) h.lv).setOther (by show w0.heap.size + 15 ≠ w0.heap.size + 16; omega) _, fun k hk => (up (by omega) (h.rows k hk)).setOther (by show w0.heap.size + 5 + 5 * k ≠ w0.heap.size + 16; omega) _, fun k o hk ho => ?_, ?_, by simp; omega⟩
  · obtain ⟨L, h1, h2⟩ := h.links k o hk ho
    exact ⟨L, (up (by omega) h1).setOther (by show w0.heap.size + 6 + 5 * k + o ≠ w0.heap.size + 16; omega) _, h2⟩
  · obtain ⟨qv, h1, h2⟩ := h.q
    exact ⟨qv', ((up (by omega) h1).set 0 qv').congr (fun j hj => by rw [if_pos (by omega)]), hq.keep (fun k hk _ => Deep.blk_setCell_other _ _ _ _ (by show k ≠ w0.heap.size + 16; omega))⟩

/-- a record's entry is visited -/
theorem visit (h : BS w0 ws A D M dist qs V) (k o j : Nat) (hk : k < 2) (ho : o < 4) (hj : j < D.len k o) :
    BS w0 (ws.setCell ⟨w0.heap.size + 6 + 5 * k + o, j, none⟩ (.int .i32 ((j + 1 : Nat) : Int))) A D M dist qs (fun k' o' j' => V k' o' j' ∨ (k' = k ∧ o' = o ∧ j' = j)) := by
  have hs := h.size
  refine ⟨h.bel.setCell (by show w0.heap.size ≤ w0.heap.size + 6 + 5 * k + o; omega) _, h.ax.setOther (by show w0.heap.size ≠ w0.heap.size + 6 + 5 * k + o; omega) _, h.di.setOther (by show w0.heap.size + 1 ≠ w0.heap.size + 6 + 5 * k + o; omega) _, h.dv.setOther (by show w0.heap.size + 2 ≠ w0.heap.size + 6 + 5 * k + o; omega) _,
    h.lv.setOther (by show w0.heap.size + 15 ≠ w0.heap.size + 6 + 5 * k + o; omega) _, fun k' hk' => (h.rows k' hk').setOther (by show w0.heap.size + 5 + 5 * k' ≠ w0.heap.size + 6 + 5 * k + o; omega) _, fun k' o' hk' ho' => ?_, ?_, by simpa using hs⟩
  · obtain ⟨L, h1, h2⟩ := h.links k' o' hk' ho'
    by_cases e : k' = k ∧ o' = o
    · obtain ⟨rfl, rfl⟩ := e
      refine ⟨fun i => if i = j then j + 1 else L i, row_set h1 j (j + 1), (h2.visit j hj).congr (fun i _ => by simp)⟩
    · refine ⟨L, h1.setOther (by show w0.heap.size + 6 + 5 * k' + o' ≠ w0.heap.size + 6 + 5 * k + o; omega) _, h2.congr (fun i _ => ⟨fun x => .inl x, fun x => x.resolve_right (fun y => e ⟨y.1, y.2.1⟩)⟩)⟩
  · obtain ⟨qv, h1, h2⟩ := h.q
    exact ⟨qv, h1.setOther (by show w0.heap.size + 16 ≠ w0.heap.size + 6 + 5 * k + o; omega) _, h2.keep (fun x hx _ => Deep.blk_setCell_other _ _ _ _ (by show x ≠ w0.heap.size + 6 + 5 * k + o; omega))⟩

/-- a record is looked through by 'from' -/
theorem looked {w' : World} {L' : Nat → Nat} (h : BS w0 ws A D M dist qs V) (k o : Nat) (hk : k < 2) (ho : o < 4) (hr : w'.rowIs (w0.heap.size + 6 + 5 * k + o) 21 (D.len k o + 1) (i32row L')) (hL : LinkOk (D.len k o) (V k o) L') (hO : Only ws w' (w0.heap.size + 6 + 5 * k + o)) :
    BS w0 w' A D M dist qs V := by
  have hs := h.size
  have up : ∀ {b t n : Nat} {f : Nat → Value}, b ≠ w0.heap.size + 6 + 5 * k + o → ws.rowIs b t n f → w'.rowIs b t n f := fun hlt hr => hr.of_block (hO.block _ hlt)
  refine ⟨h.bel.trans (hO.below (by omega)), up (by omega) h.ax, up (by omega) h.di, up (by omega) h.dv, up (by omega) h.lv, fun k' hk' => up (by omega) (h.rows k' hk'), fun k' o' hk' ho' => ?_, ?_, by rw [hO.size]; exact hs⟩
  · by_cases e : k' = k ∧ o' = o
    · obtain ⟨rfl, rfl⟩ := e
      exact ⟨L', hr, hL⟩
    · obtain ⟨L, h1, h2⟩ := h.links k' o' hk' ho'
      exact ⟨L, up (by omega) h1, h2⟩
  · obtain ⟨qv, h1, h2⟩ := h.q
    exact ⟨qv, up (by omega) h1, h2.keep (fun x hx _ => hO.block x (by omega))⟩
end BS
end Go.Proofs.Ybulkxos
