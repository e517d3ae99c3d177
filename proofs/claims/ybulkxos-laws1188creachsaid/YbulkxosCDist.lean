/-
  THE WALK of distancesTo (10).
-/
import Derived.Test.YbulkxosCReachW
import Derived.Test.YbulkxosCBfs
import Derived.Deep.LoopGhost
namespace Go.Proofs.Ybulkxos
open Go.RowKit
set_option linter.unusedVariables false
set_option linter.unusedSimpArgs false

def BV (w0 ws : World) (A : Nat) (D : Dat) (M : AccM) (dist : Nat → Int) (qs : List Nat) : Prop := BS w0 ws A D M dist qs (fun k o j => 0 ≤ dist (D.T (nth (D.inL k o) D.N j)))

theorem reach_bv (w0 ws : World) (A : Nat) (D : Dat) (M : AccM) (dist : Nat → Int) (qs : List Nat) (v : Nat) (d : Int) (ha : Acc w0 A D M) (h : BV w0 ws A D M dist qs) (hv : v < 8) (hd0 : 0 ≤ d) (hd : d ≤ 100) (hq : qs.length ≤ 1000) :
    Calls Yba.prog 13 #[.int .i32 v, .int .i32 d, .pointer (some ⟨w0.heap.size + 2, 0, none⟩), .pointer (some ⟨w0.heap.size + 16, 0, none⟩), .pointer (some ⟨w0.heap.size, 0, none⟩), .pointer (some ⟨w0.heap.size + 15, 0, none⟩)] ws fun e w' =>
      e = .returned (.tuple #[]) ∧ BV w0 w' A D M (upd dist v d) (qs ++ [v]) := by
  obtain ⟨d, rfl⟩ := Int.eq_ofNat_of_zero_le hd0
  refine (reach_any w0 ws A D M dist qs _ v d ha h hv (by omega) hq).mono ?_
  rintro e w' ⟨rfl, hb⟩
  refine ⟨rfl, hb.congrV (fun k o j _ _ _ => ?_)⟩
  unfold upd
  by_cases e : D.T (nth (D.inL k o) D.N j) = v
  · simp [e]
  · simp [e]

/-- the queue's head, and what is left behind it -/
theorem QOk.pop {w : World} {Bq u : Nat} {qv : Value} {qs : List Nat} (h : QOk w Bq qv (u :: qs)) : ∃ g off cap off2, qv = .slice (some ⟨g, off, none⟩) (qs.length + 1) cap ∧ w.cell? ⟨g, off, none⟩ = some (.int .i32 u) ∧ qs.length + 1 ≤ cap ∧
    (if cap = 1 then some (⟨g, off, none⟩ : Addr) else some ⟨g, off + 1, none⟩) = some ⟨g, off2, none⟩ ∧ QOk w Bq (.slice (some ⟨g, off2, none⟩) qs.length (cap - 1)) qs := by
  rcases h with ⟨_, h⟩ | ⟨g, off, cap, cur, h1, h2, h3, h4, h5, h6⟩
  · cases h
  · simp at h1 h4
    have h0 := h6 0 (by simp)
    refine ⟨g, off, cap, if cap = 1 then off else off + 1, h1, ?_, h4, by split <;> rfl, .inr ⟨g, if cap = 1 then off else off + 1, cap - 1, cur, rfl, h2, h3, by omega, by split <;> omega, fun j hj => ?_⟩⟩
    · simp [World.cell?, h3] at h0 ⊢
      exact h0
    · rw [if_neg (by omega)]
      have := h6 (j + 1) (by simp; omega)
      rw [show off + 1 + j = off + (j + 1) by omega, this]
      simp

theorem BV.empty {w0 ws : World} {A : Nat} {D : Dat} {M : AccM} {dist : Nat → Int} (h : BV w0 ws A D M dist []) : ∃ ao cap, ws.cell? ⟨w0.heap.size + 16, 0, none⟩ = some (.slice ao 0 cap) := by
  obtain ⟨qv, h1, h2⟩ := BS.q h
  have := h1.cell (i := 0) (by omega)
  rcases h2 with ⟨rfl, _⟩ | ⟨g, off, cap, cur, rfl, _⟩
  · exact ⟨_, _, this⟩
  · exact ⟨_, _, this⟩

theorem BV.pop {w0 ws : World} {A : Nat} {D : Dat} {M : AccM} {dist : Nat → Int} {u : Nat} {qs : List Nat} (h : BV w0 ws A D M dist (u :: qs)) : ∃ g off cap off2, ws.cell? ⟨w0.heap.size + 16, 0, none⟩ = some (.slice (some ⟨g, off, none⟩) (qs.length + 1) cap) ∧ ws.frozen? ⟨w0.heap.size + 16, 0, none⟩ = false ∧
    ws.cell? ⟨g, off, none⟩ = some (.int .i32 u) ∧ qs.length + 1 ≤ cap ∧ (if cap = 1 then some (⟨g, off, none⟩ : Addr) else some ⟨g, off + 1, none⟩) = some ⟨g, off2, none⟩ ∧ BV w0 (ws.setCell ⟨w0.heap.size + 16, 0, none⟩ (.slice (some ⟨g, off2, none⟩) qs.length (cap - 1))) A D M dist qs := by
  obtain ⟨qv, h1, h2⟩ := BS.q h
  have hc := h1.cell (i := 0) (by omega)
  obtain ⟨g, off, cap, off2, rfl, p1, p2, p3, p4⟩ := h2.pop
  exact ⟨g, off, cap, off2, hc, h1.frozen 0, p1, p2, p3, BS.setQ h (Below.refl _ _) p4⟩

/-- AT THE FIRST LOOP's HEAD -/
structure D1 (w0 wr : World) (A k : Nat) : Prop where
  bel : Below w0.heap.size w0 wr
  size : wr.heap.size = w0.heap.size + 3
  ax : wr.rowIs w0.heap.size 48 1 (fun _ => .pointer (some ⟨A, 0, none⟩))
  di : wr.rowIs (w0.heap.size + 1) 21 8 (fun v => .int .i32 (if v < k then -1 else 0))
  dv : wr.rowIs (w0.heap.size + 2) 50 1 (fun _ => .slice (some ⟨w0.heap.size + 1, 0, none⟩) 8 8)

theorem D1.start (w0 : World) (A : Nat) : D1 w0 (((w0.alloc (.cells #[.pointer (some ⟨A, 0, none⟩)] 48)).alloc (.cells (madeCells #[.int .i32 0] 8) 21)).alloc (.cells #[.slice (some ⟨w0.heap.size + 1, 0, none⟩) 8 8] 50)) A 0 := by
  have h1 := World.rowIs_alloc w0 #[.pointer (some ⟨A, 0, none⟩)] 48 (fun _ => .pointer (some ⟨A, 0, none⟩)) (fun j hj => by simp at hj; subst hj; rfl)
  have h2 := World.rowIs_made (w0.alloc (.cells #[.pointer (some ⟨A, 0, none⟩)] 48)) (.int .i32 0) 8 21
  have h3 := World.rowIs_alloc ((w0.alloc (.cells #[.pointer (some ⟨A, 0, none⟩)] 48)).alloc (.cells (madeCells #[.int .i32 0] 8) 21)) #[.slice (some ⟨w0.heap.size + 1, 0, none⟩) 8 8] 50 (fun _ => .slice (some ⟨w0.heap.size + 1, 0, none⟩) 8 8) (fun j hj => by simp at hj; subst hj; rfl)
  simp only [World.size_alloc] at h2 h3
  exact ⟨(((Below.refl _ _).alloc (Nat.le_refl _) _).alloc (by simp) _).alloc (by simp; omega) _, by simp, (h1.alloc _).alloc _, (h2.alloc _).congr (fun j _ => by simp), h3⟩

theorem D1.step {w0 wr : World} {A k : Nat} (h : D1 w0 wr A k) : D1 w0 (wr.setCell ⟨w0.heap.size + 1, k, none⟩ (.int .i32 (-1))) A (k + 1) :=
  ⟨h.bel.setCell (by show w0.heap.size ≤ w0.heap.size + 1; omega) _, by simp [h.size], h.ax.setOther (by show w0.heap.size ≠ w0.heap.size + 1; omega) _, (h.di.set k _).congr (fun j _ => by
    by_cases e : j = k
    · subst e; simp
    · rw [if_neg e]
      by_cases g : j < k
      · rw [if_pos g, if_pos (by omega)]
      · rw [if_neg g, if_neg (by omega)]), h.dv.setOther (by show w0.heap.size + 2 ≠ w0.heap.size + 1; omega) _⟩

theorem BV.start {w0 wr w1 : World} {A : Nat} {D : Dat} {M : AccM} (h : D1 w0 wr A 8) (hb : Below wr.heap.size wr w1) (hz : w1.heap.size = wr.heap.size + 12) (hr : ∀ k, k < 2 → w1.rowIs (wr.heap.size + 2 + 5 * k) 69 4 (unRow wr.heap.size k D))
    (hl : ∀ k o, k < 2 → o < 4 → w1.rowIs (wr.heap.size + 3 + 5 * k + o) 21 (D.len k o + 1) (i32row fun i => i)) :
    BV w0 ((w1.alloc (.cells #[.slice (some ⟨w0.heap.size + 5, 0, none⟩) 4 4, .slice (some ⟨w0.heap.size + 10, 0, none⟩) 4 4] 67)).alloc (.cells #[.slice none 0 0] 50)) A D M (fun _ => -1) [] := by
  have hs := h.size
  rw [hs] at hz hr hl
  have h1 := World.rowIs_alloc w1 #[.slice (some ⟨w0.heap.size + 5, 0, none⟩) 4 4, .slice (some ⟨w0.heap.size + 10, 0, none⟩) 4 4] 67 (fun k => .slice (some ⟨w0.heap.size + 5 + 5 * k, 0, none⟩) 4 4) (fun j hj => by simp at hj; match j, hj with | 0, _ => rfl | 1, _ => rfl)
  have h2 := World.rowIs_alloc (w1.alloc (.cells #[.slice (some ⟨w0.heap.size + 5, 0, none⟩) 4 4, .slice (some ⟨w0.heap.size + 10, 0, none⟩) 4 4] 67)) #[.slice none 0 0] 50 (fun _ => .slice none 0 0) (fun j hj => by simp at hj; subst hj; rfl)
  simp only [World.size_alloc] at h2
  rw [hz] at h1 h2
  have up : ∀ {b t n : Nat} {f : Nat → Value}, wr.rowIs b t n f → w1.rowIs b t n f := fun x => Below.row' hb x
  refine ⟨((h.bel.trans (hb.mono (by omega))).alloc (by omega) _).alloc (by simp; omega) _, ((up h.ax).alloc _).alloc _, (((up h.di).alloc _).alloc _).congr (fun j hj => by rw [if_pos hj]), ((up h.dv).alloc _).alloc _, h1.alloc _, fun k hk => ?_, fun k o hk ho => ⟨fun i => i, ?_, LinkOk.start _ _ (fun i _ => by show ¬ (0 : Int) ≤ -1; omega)⟩, ⟨_, h2, .inl ⟨rfl, rfl⟩⟩, by simp; omega⟩
  · rw [show w0.heap.size + 5 + 5 * k = w0.heap.size + 3 + 2 + 5 * k by omega]
    exact ((hr k hk).alloc _).alloc _
  · rw [show w0.heap.size + 6 + 5 * k + o = w0.heap.size + 3 + 3 + 5 * k + o by omega]
    exact ((hl k o hk ho).alloc _).alloc _

/-- what has been looked at of u's first p accesses -/
def Seen (D : Dat) (dist : Nat → Int) (u p : Nat) : Prop := ∀ q, q < p → ∀ j, j < D.plc (confK (D.W (nth (D.inT u) D.N q))) (nth (D.inT u) D.N q) → 0 ≤ dist (D.T (nth (D.inL (confK (D.W (nth (D.inT u) D.N q))) (D.O (nth (D.inT u) D.N q))) D.N j))

theorem Seen.all {D : Dat} {dist : Nat → Int} {u : Nat} (h : Seen D dist u (idx (D.inT u) D.N)) : ∀ v, v < 8 → Ed D v u → 0 ≤ dist v := by
  refine all_seen (fun x hx hu j hj => ?_)
  have ht : D.inT u x = true := (inT_iff D u x).2 hu
  have := h (idx (D.inT u) x) (idx_lt _ ht hx) j
  rw [nth_idx _ ht hx] at this
  exact this hj

theorem Seen.mono {D : Dat} {dist dist' : Nat → Int} {u p : Nat} (h : Seen D dist u p) (hm : ∀ x, 0 ≤ dist x → 0 ≤ dist' x) : Seen D dist' u p := fun q hq j hj => hm _ (h q hq j hj)

theorem Seen.step {D : Dat} {dist : Nat → Int} {u p x : Nat} (h : Seen D dist u p) (hx : x = nth (D.inT u) D.N p) (hj : ∀ j, j < D.plc (confK (D.W x)) x → 0 ≤ dist (D.T (nth (D.inL (confK (D.W x)) (D.O x)) D.N j))) : Seen D dist u (p + 1) := by
  intro q hq
  by_cases e : q = p
  · subst e hx; exact hj
  · exact h q (by omega)

theorem confB_eq (D : Dat) (x : Nat) : confB (D.W x) (D.plc 0 x) (D.plc 1 x) = D.plc (confK (D.W x)) x := by
  cases h : D.W x <;> simp [confB, confK]
theorem confK_lt (b : Bool) : confK b < 2 := by cases b <;> decide

theorem BS.rowk {w0 ws : World} {A : Nat} {D : Dat} {M : AccM} {dist : Nat → Int} {qs : List Nat} {V : Nat → Nat → Nat → Prop} (h : BS w0 ws A D M dist qs V) (k o : Nat) (hk : k < 2) (ho : o < 4) :
    ws.cell? ⟨w0.heap.size + 5 + 5 * k, o, none⟩ = some (.slice (some ⟨w0.heap.size + 6 + 5 * k + o, 0, none⟩) (D.len k o + 1) (D.len k o + 1)) := by
  have := (h.rows k hk).cell ho
  unfold unRow at this
  rw [show w0.heap.size + 3 + 3 + 5 * k + o = w0.heap.size + 6 + 5 * k + o by omega] at this
  exact this
theorem Acc.cellk {w : World} {A : Nat} {D : Dat} {M : AccM} (h : Acc w A D M) (k : Nat) (hk : k < 2) : w.cell? ⟨A, 1 + k, none⟩ = some (.slice (some ⟨A + 1 + k, 0, none⟩) 4 4) := by
  have := h.row.cell (i := 1 + k) (by omega)
  obtain rfl | rfl : k = 0 ∨ k = 1 := by omega
  · simpa [accF] using this
  · simpa [accF] using this

theorem BV.held {w0 w' : World} {A : Nat} {D : Dat} {M : AccM} {dd : Nat → Int} {qq : List Nat} {k o r y u : Nat} {d : Int} (ha : Acc w0 A D M) (h : BV w0 w' A D M dd qq) (hk : k < 2) (ho : o < 4) (hr : r < D.len k o) (hy : y = nth (D.inL k o) D.N r) (hu : u < 8) (hd : dd u = d) :
    w'.cell? ⟨w0.heap.size, 0, none⟩ = some (.pointer (some ⟨A, 0, none⟩)) ∧ w'.cell? ⟨A, 0, none⟩ = some (.slice (some ⟨M.lb, 0, none⟩) D.N M.lc) ∧ w'.cell? ⟨M.vb k o, r, none⟩ = some (.int .i32 y) ∧ w'.cell? ⟨M.lb, y * 5, none⟩ = some (.int .i32 (D.T y)) ∧ w'.cell? ⟨w0.heap.size + 2, 0, none⟩ = some (.slice (some ⟨w0.heap.size + 1, 0, none⟩) 8 8) ∧ w'.cell? ⟨w0.heap.size + 1, u, none⟩ = some (.int .i32 d) := by
  subst hd
  have hAr := ha.below (BS.bel h)
  obtain ⟨m1, m2, m3⟩ := nth_ok (D.inL k o) hr
  obtain ⟨o1, o2⟩ := hAr.objE k o r hk ho hr
  rw [← hy] at m1 o2
  obtain ⟨y0, y1, _, _, _, _⟩ := hAr.list y m1
  have z2 := hAr.row.cell (i := 0) (by omega)
  simp only [accF, if_true] at z2
  rw [y0] at z2
  exact ⟨(BS.ax h).cell (i := 0) (by omega), z2, o2, y1, (BS.dv h).cell (i := 0) (by omega), (BS.di h).cell (i := u) hu⟩

set_option maxHeartbeats 1000000 in
set_option maxRecDepth 100000 in
theorem dist_any (w0 : World) (A : Nat) (D : Dat) (M : AccM) (tg : Nat) (ha : Acc w0 A D M) (htg : tg < 8) :
    Calls Yba.prog 10 #[.pointer (some ⟨A, 0, none⟩), .int .i32 tg] w0 fun e w' => ∃ dist, e = .returned (.slice (some ⟨w0.heap.size + 1, 0, none⟩) 8 8) ∧ Good D tg dist ∧ w'.rowIs (w0.heap.size + 1) 21 8 (fun v => .int .i32 (dist v)) ∧ Below w0.heap.size w0 w' := by
  have hmk : ∀ W : World, (Instr.makeSlice 50 (.int .i64 8) (.int .i64 8)).run Yba.prog W = .ok (.slice (some ⟨W.heap.size, 0, none⟩) 8 8) (W.alloc (.cells (madeCells #[.int .i32 0] 8) 21)) :=
    run_make_row' (P := Yba.prog) 50 21 (.int .i32 0) 4 Yba.underlying50 Yba.info21 rfl .i64 .i64 8 (by omega) (by omega)
  have c3 := ha.row.cell (i := 3) (by omega)
  simp only [accF, show ¬ (3 : Nat) = 0 by omega, show ¬ (3 : Nat) = 1 by omega, show ¬ (3 : Nat) = 2 by omega, if_false] at c3
  have hA := ha.row.lt
  go_enter Yba.func10, Yba.ntmps10
  go_wp2
  clear hmk c3 hA
  go_loopw [27] (fun x wr => ∃ k : Nat, k ≤ 8 ∧ x = .int .i64 k ∧ Hid (D1 w0 wr A k)) (fun x _ => 8 - (intOf x).toNat)
  case atStart => exact ⟨0, by omega, rfl, D1.start w0 A⟩
  case round =>
    obtain ⟨k, hk, rfl, hD⟩ := hrel
    by_cases hlt : k < 8
    · have c1 := hD.out.dv.cell (i := 0) (by omega)
      have c2 := hD.out.di.cell hlt
      have c2f := hD.out.di.frozen k
      go_wp2
      go_roundw
      case rel => exact ⟨k + 1, by omega, by go_num, hD.out.step⟩
      case measure => simp [intOf]; omega
    · obtain rfl : k = 8 := by omega
      have hAr := ha.below hD.out.bel
      have c0 := hD.out.ax.cell (i := 0) (by omega)
      have hsz := hD.out.size
      have HZ : Hid (wr.heap.size = w0.heap.size + 3) := hsz
      clear hsz
      go_wp2_with fail
      refine (unv_any A D M _ hAr).mono ?_
      rintro e w1 ⟨rfl, hb1, hz1, hr1, hl1⟩
      have HB := BV.start (M := M) hD.out hb1 hz1 hr1 hl1
      clear hr1 hl1 hAr c0
      rw [HZ.out] at hz1 ⊢
      rw [show w0.heap.size + 3 + 2 = w0.heap.size + 5 by omega, show w0.heap.size + 3 + 7 = w0.heap.size + 10 by omega]
      have HZ1 : Hid (w1.heap.size = w0.heap.size + 15) := hz1
      clear hz1 hb1
      go_wp2_with fail
      rw [HZ1.out, show w0.heap.size + 1 + 1 = w0.heap.size + 2 by omega, show w0.heap.size + 15 + 1 = w0.heap.size + 16 by omega]
      refine (reach_bv w0 _ A D M (fun _ => -1) [] tg 0 ha HB htg (by omega) (by omega) (by simp)).mono ?_
      rintro e w2 ⟨rfl, HB2⟩
      have HO := Out.start D tg htg
      rw [List.nil_append] at HB2
      clear HB HZ HZ1 hD
      go_wp2_with fail
      go_loopg [] 15 (fun gg wr => ∃ dist qs, gg ≤ 17 ∧ gg = 2 * (8 - cntR dist) + qs.length ∧ Hid (BV w0 wr A D M dist qs ∧ Out D tg dist qs))
      case atStart =>
        refine ⟨_, [tg], by omega, ?_, HB2, HO⟩
        have e1 : cntR (upd (fun _ => (-1 : Int)) tg 0) = 1 := (cntR_upd (fun _ => (-1 : Int)) tg 0 htg rfl (Int.le_refl _)).trans rfl
        rw [e1]
        rfl
      case round =>
        clear HB2 HO
        obtain ⟨G, hGG⟩ : ∃ G, G = gk := ⟨_, rfl⟩
        subst hGG
        obtain ⟨dist, qs, hg17, hgk, hH⟩ := hrel
        have HGK : Hid (G = 2 * (8 - cntR dist) + qs.length) := hgk
        clear hgk
        cases qs with
        | nil =>
          obtain ⟨ao, cap, hq⟩ := BV.empty hH.out.1
          have hdv := (BS.dv hH.out.1).cell (i := 0) (by omega)
          go_wp2
          go_ret
          exact ⟨dist, rfl, hH.out.2.good, BS.di hH.out.1, BS.bel hH.out.1⟩
        | cons u qs =>
          have hI := hH.out.2.pop
          have hu := hI.ul
          obtain ⟨g, off, cap, off2, q1, q2, q3, q4, q5, q6⟩ := BV.pop hH.out.1
          have hsz := BS.size hH.out.1
          have HI : Hid (In D tg dist qs u) := hI
          have HB : Hid (BV w0 (wr.setCell ⟨w0.heap.size + 16, 0, none⟩ (.slice (some ⟨g, off2, none⟩) qs.length (cap - 1))) A D M dist qs) := q6
          clear hI q6 hH
          go_upto_region 14 with fail
          have HB' := HB.out
          clear HB
          generalize wr.setCell ⟨w0.heap.size + 16, 0, none⟩ (.slice (some ⟨g, off2, none⟩) qs.length (cap - 1)) = w3 at HB' ⊢
          clear q1 q2 q3 q4 q5
          have hA3 := ha.below (BS.bel HB')
          have f1 := (BS.ax HB').cell (i := 0) (by omega)
          have f2 := hA3.row.cell (i := 3) (by omega)
          have f3 := hA3.txn.cell hu
          simp only [accF, show ¬ (3 : Nat) = 0 by omega, show ¬ (3 : Nat) = 1 by omega, show ¬ (3 : Nat) = 2 by omega, if_false] at f2
          by_cases h0 : 0 < idx (D.inT u) D.N
          · have hta := (hA3.txnE u 0 hu h0).1
            rw [hta] at f3
            clear hA3
            go_wp2
            clear f1 f2 f3
            go_loopg [56] (idx (D.inT u) D.N) (fun gg y wr => ∃ (p : Nat) (dist : Nat → Int) (qs : List Nat), p ≤ idx (D.inT u) D.N ∧ gg = idx (D.inT u) D.N - p ∧ y = .int .i64 p ∧ 2 * (8 - cntR dist) + qs.length < G ∧ Hid (BV w0 wr A D M dist qs ∧ In D tg dist qs u ∧ Seen D dist u p))
            case atStart => exact ⟨0, dist, qs, by omega, by omega, rfl, by have := HGK.out; simp at this; omega, HB', HI.out, fun q hq => absurd hq (by omega)⟩
            case round =>
              clear HB' HI HGK
              obtain ⟨G2, hGG⟩ : ∃ G2, G2 = gk := ⟨_, rfl⟩
              subst hGG
              obtain ⟨p, dist, qs, hp, hgk2, rfl, hbud, hH⟩ := hrel
              have HG2 : Hid (G2 = idx (D.inT u) D.N - p ∧ 2 * (8 - cntR dist) + qs.length < G) := ⟨hgk2, hbud⟩
              clear hgk2 hbud
              by_cases hlt : p < idx (D.inT u) D.N
              · have hAr := ha.below (BS.bel hH.out.1)
                obtain ⟨x, hx⟩ : ∃ x, x = nth (D.inT u) D.N p := ⟨_, rfl⟩
                obtain ⟨n1, n2, n3⟩ := nth_ok (D.inT u) hlt
                have hxc := (hAr.txnE u p hu hlt).2
                rw [← hx] at n1 n2 n3 hxc
                obtain ⟨l0, l1, l2, l3, l4, l5⟩ := hAr.list x n1
                have hox := ha.olt x n1
                have hle := ha.nle
                have hp0 : D.plc 0 x ≤ 1024 := Nat.le_trans (idx_le _ _) (by omega)
                have hp1 : D.plc 1 x ≤ 1024 := Nat.le_trans (idx_le _ _) (by omega)
                have g1 := (BS.ax hH.out.1).cell (i := 0) (by omega)
                have g2 := hAr.row.cell (i := 0) (by omega)
                simp only [accF, if_true] at g2
                rw [l0] at g2
                have hsz := BS.size hH.out.1
                have hidx := idx_le (D.inT u) D.N
                have HX : Hid (x = nth (D.inT u) D.N p ∧ D.T x = u) := ⟨hx, (inT_iff D u x).1 n2⟩
                clear hx n2 n3
                go_wp2_with fail
                refine (conf_any (D.T x) (D.O x) (D.plc 0 x) (D.plc 1 x) (D.W x) _ (by omega) (by omega)).mono ?_
                rintro e w4 ⟨r3, rfl, kd, rfl⟩
                rw [confB_eq]
                have hBel : Below wr.heap.size wr ((wr.alloc (.cells #[.int .i32 (D.T x), .int .i32 (D.O x), .bool (D.W x), .int .i32 (D.plc 0 x), .int .i32 (D.plc 1 x)] 60)).drewN kd) := by
                  have := (Below.refl wr.heap.size wr).alloc (Nat.le_refl _) (.cells #[.int .i32 (D.T x), .int .i32 (D.O x), .bool (D.W x), .int .i32 (D.plc 0 x), .int .i32 (D.plc 1 x)] 60)
                  exact ⟨this.os, this.tape, this.output, this.size, this.block⟩
                have HB4 := BS.keep hH.out.1 hBel
                have hA4 := hAr.below hBel
                generalize (wr.alloc (.cells #[.int .i32 (D.T x), .int .i32 (D.O x), .bool (D.W x), .int .i32 (D.plc 0 x), .int .i32 (D.plc 1 x)] 60)).drewN kd = w5 at HB4 hA4 hBel ⊢
                have g1' := Below.cell' hBel g1
                have g2' := Below.cell' hBel g2
                have l2' := Below.cell' hBel l2
                have hk2 := confK_lt (D.W x)
                have hHI : Hid (In D tg dist qs u ∧ Seen D dist u p) := hH.out.2
                obtain ⟨k, hk⟩ : ∃ k, k = confK (D.W x) := ⟨_, rfl⟩
                have HK : Hid (k = confK (D.W x)) := hk
                rw [← hk] at hk2 ⊢
                clear hk hBel hH hAr g1 g2 l1 l2 l3 l4 l5 hxc
                have hbk : D.plc k x ≤ 1024 := Nat.le_trans (idx_le _ _) (by omega)
                have ck := hA4.cellk k hk2
                have co := (hA4.obj k hk2).cell hox
                have cl := (BS.lv HB4).cell (i := k) hk2
                have cr := BS.rowk HB4 k (D.O x) hk2 hox
                have hkI : (k : Int) < 2 := by omega
                have hoI : (D.O x : Int) < 4 := by omega
                have hxI : (x : Int) < (D.N : Int) := by omega
                have hlenk : D.len k (D.O x) ≤ 1024 := Nat.le_trans (idx_le _ _) hle
                go_upto_region 18 with fail
                go_quiet (fail)
                have HB6 := BS.drewN HB4 nq
                have hA6 : Acc (w5.drewN nq) A D M := hA4.below ⟨rfl, rfl, rfl, Nat.le_refl _, fun _ _ => rfl⟩
                generalize w5.drewN nq = w6 at HB6 hA6 ⊢
                clear HB4 hA4 g1' g2' l2' ck co cl cr
                obtain ⟨L, hrL, hLk⟩ := HB6.links k (D.O x) hk2 hox
                go_wp2_with fail
                refine (from_any _ (D.len k (D.O x)) 0 w6 _ L (by omega) (by omega) hLk hrL).mono ?_
                rintro e w7 ⟨r0, L', rfl, hnx, hL', hr', hon⟩
                have HB7 : Hid (BV w0 w7 A D M dist qs) := BS.looked HB6 k (D.O x) hk2 hox hr' hL' hon
                have HNX : Hid (NextOk (D.len k (D.O x)) (fun j => 0 ≤ dist (D.T (nth (D.inL k (D.O x)) D.N j))) 0 r0) := hnx
                clear hnx hL' hr' hon hLk hrL HB6 hA6
                go_wp2_with fail
                go_loopg [18] (8 - cntR dist) (fun gg y wr => ∃ (r : Nat) (dist : Nat → Int) (qs : List Nat), y = .int .i32 r ∧ r ≤ D.len k (D.O x) ∧ gg ≤ 8 ∧ gg = 8 - cntR dist ∧ 2 * (8 - cntR dist) + qs.length < G ∧ Hid (BV w0 wr A D M dist qs ∧ In D tg dist qs u ∧ Seen D dist u p ∧ NextOk (D.len k (D.O x)) (fun j => 0 ≤ dist (D.T (nth (D.inL k (D.O x)) D.N j))) 0 r))
                case atStart => exact ⟨r0, dist, qs, rfl, HNX.out.2.1, by omega, rfl, HG2.out.2, HB7.out, hHI.out.1, hHI.out.2, HNX.out⟩
                case round =>
                  clear HB7 HNX hHI
                  obtain ⟨G3, hGG⟩ : ∃ G3, G3 = gk := ⟨_, rfl⟩
                  subst hGG
                  obtain ⟨r, dist2, qs2, rfl, hrl, hg8, hgk3, hbud, hH⟩ := hrel
                  have HG3 : Hid (G3 = 8 - cntR dist2 ∧ 2 * (8 - cntR dist2) + qs2.length < G) := ⟨hgk3, hbud⟩
                  clear hgk3 hbud
                  by_cases hrp : r < D.plc k x
                  · have hAr := ha.below (BS.bel hH.out.1)
                    have hplen : D.plc k x ≤ D.len k (D.O x) := idx_mono _ (by omega)
                    have hr1 : r < D.len k (D.O x) := by omega
                    obtain ⟨y, hy⟩ : ∃ y, y = nth (D.inL k (D.O x)) D.N r := ⟨_, rfl⟩
                    obtain ⟨m1, m2, m3⟩ := nth_ok (D.inL k (D.O x)) hr1
                    obtain ⟨o1, o2⟩ := hAr.objE k (D.O x) r hk2 hox hr1
                    rw [← hy] at m1 m2 m3 o2
                    obtain ⟨y0, y1, _, _, _, _⟩ := hAr.list y m1
                    have hty := ha.tlt y m1
                    have z1 := (BS.ax hH.out.1).cell (i := 0) (by omega)
                    have z2 := hAr.row.cell (i := 0) (by omega)
                    simp only [accF, if_true] at z2
                    rw [y0] at z2
                    have z3 := (BS.dv hH.out.1).cell (i := 0) (by omega)
                    have z4 := (BS.di hH.out.1).cell (i := u) hu
                    have hun : ¬ 0 ≤ dist2 (D.T y) := by
                      have := hH.out.2.2.2.2.2.2
                      dsimp only at this
                      rw [← hy] at this
                      rcases this with h | h
                      · omega
                      · exact h
                    have hlo := hH.out.2.1.base.lo (D.T y) hty
                    have hm1 : dist2 (D.T y) = -1 := by omega
                    have hED : Ed D (D.T y) u := by
                      have := edge_of (D := D) (u := u) (x := x) (j := r) (dist := dist2) n1 HX.out.2 hH.out.2.1.u0
                      rw [show (if D.W x = true then 0 else 1) = k from HK.out.symm, ← hy] at this
                      exact this hrp hun
                    have hupd : upd dist2 (D.T y) (dist2 u + 1) u = dist2 u := upd_other _ _ (fun e => hun (by rw [← e]; exact hH.out.2.1.u0))
                    obtain ⟨hI', hc'⟩ := hH.out.2.1.push hty hm1 hED
                    have hcl := cntR_le (upd dist2 (D.T y) (dist2 u + 1))
                    have hu0 := hH.out.2.1.u0
                    have hu8 := hH.out.2.1.base.cnt u hu
                    have hcl2 := cntR_le dist2
                    have hq17 : qs2.length ≤ 17 := by have := HG3.out.2; omega
                    have HI' : Hid (In D tg (upd dist2 (D.T y) (dist2 u + 1)) (qs2 ++ [D.T y]) u ∧ cntR (upd dist2 (D.T y) (dist2 u + 1)) = cntR dist2 + 1) := ⟨hI', hc'⟩
                    have HY : Hid (y = nth (D.inL k (D.O x)) D.N r) := hy
                    have hsz := BS.size hH.out.1
                    have HO1 : Hid (M.va k (D.O x) = some ⟨M.vb k (D.O x), 0, none⟩) := o1
                    rw [o1]
                    clear o1
                    clear hED hI' hc' hun hlo hm1 hy hAr y0 m2 m3
                    go_upto_region 22 with fail
                    have HBV : Hid (BV w0 wr A D M dist2 qs2) := hH.out.1
                    have HOld : Hid (In D tg dist2 qs2 u ∧ Seen D dist2 u p ∧ NextOk (D.len k (D.O x)) (fun j => 0 ≤ dist2 (D.T (nth (D.inL k (D.O x)) D.N j))) 0 r) := hH.out.2
                    clear hH
                    have hmI : (y : Int) < (D.N : Int) := by omega
                    have hrI : (r : Int) < (D.len k (D.O x) : Int) := by omega
                    have huI : (u : Int) < 8 := by omega
                    have hd1 : 0 ≤ dist2 u + 1 := by omega
                    have hd2 : dist2 u + 1 ≤ 100 := by omega
                    have hd3 : dist2 u < 9 := by omega
                    have hq3 : qs2.length ≤ 1000 := by omega
                    have HDr := BS.drew HBV.out
                    have hwr : IntKind.i32.wrap (dist2 u + 1) = dist2 u + 1 := by rw [IntKind.wrap_i32]; omega
                    go_region_held3 (fun w' => w'.cell? ⟨w0.heap.size, 0, none⟩ = some (.pointer (some ⟨A, 0, none⟩)) ∧ w'.cell? ⟨A, 0, none⟩ = some (.slice (some ⟨M.lb, 0, none⟩) D.N M.lc) ∧ w'.cell? ⟨M.vb k (D.O x), r, none⟩ = some (.int .i32 y) ∧ w'.cell? ⟨M.lb, y * 5, none⟩ = some (.int .i32 (D.T y)) ∧ w'.cell? ⟨w0.heap.size + 2, 0, none⟩ = some (.slice (some ⟨w0.heap.size + 1, 0, none⟩) 8 8) ∧ w'.cell? ⟨w0.heap.size + 1, u, none⟩ = some (.int .i32 (dist2 u))) (first | exact BV.held ha HBV.out hk2 hox hr1 HY.out hu rfl | exact BV.held ha HDr hk2 hox hr1 HY.out hu rfl | exact BV.held ha HB8 hk2 hox hr1 HY.out hu hupd) (first | (go_at_call 13; refine (reach_bv w0 _ A D M dist2 qs2 (D.T y) (dist2 u + 1) ha HDr hty hd1 hd2 hq3).mono ?_; rintro e w8 ⟨rfl, HB8⟩))
                    obtain ⟨L3, hrL3, hLk3⟩ := BS.links HB8 k (D.O x) hk2 hox
                    clear z1 z2 o2 y1 z3 z4 HDr hwr hupd
                    go_wp2_with fail
                    refine (from_any _ (D.len k (D.O x)) r w8 _ L3 (by omega) (by omega) hLk3 hrL3).mono ?_
                    rintro e w9 ⟨r9, L', rfl, hnx, hL', hr', hon⟩
                    have HB9 : Hid (BV w0 w9 A D M (upd dist2 (D.T y) (dist2 u + 1)) (qs2 ++ [D.T y])) := BS.looked HB8 k (D.O x) hk2 hox hr' hL' hon
                    have HNX : Hid (NextOk (D.len k (D.O x)) (fun j => 0 ≤ upd dist2 (D.T y) (dist2 u + 1) (D.T (nth (D.inL k (D.O x)) D.N j))) r r9) := hnx
                    clear hnx hL' hr' hon hLk3 hrL3 HB8 HBV
                    have hmono : ∀ x, 0 ≤ dist2 x → 0 ≤ upd dist2 (D.T y) (dist2 u + 1) x := fun x hx => by
                      unfold upd
                      split <;> omega
                    go_wp2_with fail
                    rw [← HO1.out]
                    go_roundg (8 - cntR (upd dist2 (D.T y) (dist2 u + 1)))
                    case measure => have h1 := HG3.out.1; have h2 := HI'.out.2; omega
                    case rel =>
                      refine ⟨r9, _, _, rfl, HNX.out.2.1, by omega, rfl, ?_, HB9.out, HI'.out.1, HOld.out.2.1.mono hmono, ?_⟩
                      · have h1 := HG3.out.2; have h2 := HI'.out.2; simp; omega
                      · obtain ⟨q1, q2, q3, q4⟩ := HNX.out
                        refine ⟨by omega, q2, fun j _ hj => ?_, q4⟩
                        by_cases hjr : r ≤ j
                        · exact q3 j hjr hj
                        · exact hmono _ (HOld.out.2.2.2.2.1 j (by omega) (by omega))
                  · have hSe : Seen D dist2 u (p + 1) := hH.out.2.2.1.step HX.out.1 (fun j hj => by
                      rw [← HK.out] at hj ⊢
                      exact hH.out.2.2.2.2.2.1 j (by omega) (by omega))
                    have HS : Hid (Seen D dist2 u (p + 1)) := hSe
                    clear hSe
                    go_wp2_with fail
                    go_roundg (idx (D.inT u) D.N - (p + 1))
                    case measure => have h1 := HG2.out.1; omega
                    case rel => exact ⟨p + 1, dist2, qs2, by omega, rfl, by go_num, HG3.out.2, hH.out.1, hH.out.2.1, HS.out⟩
              · obtain rfl : p = idx (D.inT u) D.N := by omega
                have HO : Hid (Out D tg dist qs) := hH.out.2.1.finish (Seen.all hH.out.2.2)
                have HBB : Hid (BV w0 wr A D M dist qs) := hH.out.1
                clear hH
                go_wp2_with fail
                go_roundg (2 * (8 - cntR dist) + qs.length)
                case measure => have := HG2.out.2; omega
                case rel => exact ⟨dist, qs, by have := HG2.out.2; omega, rfl, HBB.out, HO.out⟩
          · have h0' : idx (D.inT u) D.N = 0 := by omega
            have HO : Hid (Out D tg dist qs) := HI.out.finish (Seen.all (by rw [h0']; exact fun q hq => absurd hq (by omega)))
            have HBB : Hid _ := HB'
            rw [h0'] at f3
            clear HB' hA3 h0 h0' HI
            go_wp2
            refine wp_loop_rounds 1 ?_
            rw [rounds_succ]
            go_wp2
            go_roundg (2 * (8 - cntR dist) + qs.length)
            case measure => have := HGK.out; simp at this; omega
            case rel => exact ⟨dist, qs, by have := HGK.out; simp at this; omega, rfl, HBB.out, HO.out⟩
end Go.Proofs.Ybulkxos
