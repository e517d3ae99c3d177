/-
  THE WALK of the closure reach (13).
-/
import Derived.Test.YbulkxosCBs
import Derived.Deep.DeepCutAuto
namespace Go.Proofs.Ybulkxos
open Go.RowKit
set_option linter.unusedVariables false
set_option linter.unusedSimpArgs false

/-- what is visited when p of v's accesses have been gone through -/
def Vp (D : Dat) (V : Nat → Nat → Nat → Prop) (v p : Nat) (k o j : Nat) : Prop := V k o j ∨ ∃ q, q < p ∧ D.inL k o (nth (D.inT v) D.N q) = true ∧ j = D.plc k (nth (D.inT v) D.N q)

theorem inL_iff (D : Dat) (k o x : Nat) : D.inL k o x = true ↔ D.O x = o ∧ (k = 0 ∨ D.W x = true) := by simp [Dat.inL]
theorem inT_iff (D : Dat) (t x : Nat) : D.inT t x = true ↔ D.T x = t := by simp [Dat.inT]

theorem Vp_step (D : Dat) (V : Nat → Nat → Nat → Prop) (v p k o j : Nat) : Vp D V v (p + 1) k o j ↔ Vp D V v p k o j ∨ (D.inL k o (nth (D.inT v) D.N p) = true ∧ j = D.plc k (nth (D.inT v) D.N p)) := by
  unfold Vp
  constructor
  · rintro (h | ⟨q, hq, h⟩)
    · exact .inl (.inl h)
    · by_cases e : q = p
      · subst e; exact .inr h
      · exact .inl (.inr ⟨q, by omega, h⟩)
  · rintro ((h | ⟨q, hq, h⟩) | h)
    · exact .inl h
    · exact .inr ⟨q, by omega, h⟩
    · exact .inr ⟨p, by omega, h⟩

theorem Vp_end (D : Dat) (V : Nat → Nat → Nat → Prop) (v k o j : Nat) (hj : j < D.len k o) : Vp D V v (idx (D.inT v) D.N) k o j ↔ V k o j ∨ D.T (nth (D.inL k o) D.N j) = v := by
  obtain ⟨m1, m2, m3⟩ := nth_ok (D.inL k o) hj
  unfold Vp
  constructor
  · rintro (h | ⟨q, hq, h1, h2⟩)
    · exact .inl h
    · refine .inr ?_
      obtain ⟨n1, n2, n3⟩ := nth_ok (D.inT v) hq
      have ho := ((inL_iff D k o _).1 h1).1
      have e : j = idx (D.inL k o) (nth (D.inT v) D.N q) := by rw [h2]; unfold Dat.plc; rw [ho]
      rw [e, nth_idx (D.inL k o) h1 n1]
      exact (inT_iff D v _).1 n2
  · rintro (h | h)
    · exact .inl h
    · have ht : D.inT v (nth (D.inL k o) D.N j) = true := (inT_iff D v _).2 h
      have e := nth_idx (D.inT v) ht m1
      have ho := ((inL_iff D k o _).1 m2).1
      refine .inr ⟨idx (D.inT v) (nth (D.inL k o) D.N j), idx_lt _ ht m1, by rw [e]; exact m2, ?_⟩
      rw [e]
      unfold Dat.plc
      rw [ho]
      exact m3

theorem BS.row0 {w0 ws : World} {A : Nat} {D : Dat} {M : AccM} {dist : Nat → Int} {qs : List Nat} {V : Nat → Nat → Nat → Prop} (h : BS w0 ws A D M dist qs V) (o : Nat) (ho : o < 4) :
    ws.cell? ⟨w0.heap.size + 5, o, none⟩ = some (.slice (some ⟨w0.heap.size + 6 + o, 0, none⟩) (D.len 0 o + 1) (D.len 0 o + 1)) := by
  have := (h.rows 0 (by omega)).cell ho
  simpa [unRow, show w0.heap.size + 3 + 3 + o = w0.heap.size + 6 + o by omega] using this
theorem BS.row1 {w0 ws : World} {A : Nat} {D : Dat} {M : AccM} {dist : Nat → Int} {qs : List Nat} {V : Nat → Nat → Nat → Prop} (h : BS w0 ws A D M dist qs V) (o : Nat) (ho : o < 4) :
    ws.cell? ⟨w0.heap.size + 10, o, none⟩ = some (.slice (some ⟨w0.heap.size + 11 + o, 0, none⟩) (D.len 1 o + 1) (D.len 1 o + 1)) := by
  have := (h.rows 1 (by omega)).cell ho
  simpa [unRow, show w0.heap.size + 3 + 3 + 5 + o = w0.heap.size + 11 + o by omega, show w0.heap.size + 5 + 5 = w0.heap.size + 10 by omega] using this

set_option maxHeartbeats 1000000 in
set_option maxRecDepth 100000 in
theorem reach_any (w0 ws : World) (A : Nat) (D : Dat) (M : AccM) (dist : Nat → Int) (qs : List Nat) (V : Nat → Nat → Nat → Prop) (v d : Nat) (ha : Acc w0 A D M) (h : BS w0 ws A D M dist qs V) (hv : v < 8) (hd : d ≤ 100) (hq : qs.length ≤ 1000) :
    Calls Yba.prog 13 #[.int .i32 v, .int .i32 d, .pointer (some ⟨w0.heap.size + 2, 0, none⟩), .pointer (some ⟨w0.heap.size + 16, 0, none⟩), .pointer (some ⟨w0.heap.size, 0, none⟩), .pointer (some ⟨w0.heap.size + 15, 0, none⟩)] ws fun e w' =>
      e = .returned (.tuple #[]) ∧ BS w0 w' A D M (fun x => if x = v then (d : Int) else dist x) (qs ++ [v]) (fun k o j => V k o j ∨ D.T (nth (D.inL k o) D.N j) = v) := by
  have e1 := h.dv.cell (i := 0) (by omega)
  have e2 := h.di.cell hv
  have e2f := h.di.frozen v
  have hsz := h.size
  obtain ⟨qv, hq1, hq2⟩ := h.q
  have e3 := hq1.cell (i := 0) (by omega)
  have e3f := hq1.frozen 0
  have H1 := h.setD v d
  have HH : Hid (BS w0 (ws.setCell ⟨w0.heap.size + 1, v, none⟩ (.int .i32 d)) A D M (fun x => if x = v then (d : Int) else dist x) qs V) := H1
  have HQ : Hid (QOk (ws.setCell ⟨w0.heap.size + 1, v, none⟩ (.int .i32 d)) (w0.heap.size + 17) qv qs) := hq2.keep (fun k hk _ => Deep.blk_setCell_other _ _ _ _ (by show k ≠ w0.heap.size + 1; omega))
  clear hq2 H1 h
  go_enter Yba.func13, Yba.ntmps13
  have hR : ws.rowIs (w0.heap.size + 16) 50 1 (fun _ => qv) := hq1
  clear hq1
  go_upto_region 2 with (at_builtin; refine wpList_append_q _ rfl (.tmp 15) (.tmp 17) rfl (w0.heap.size + 17) qv qs v HQ.out (by simpa using hsz) hq ws.heap.size (by simp) rfl rfl ?_; intro g off cap w2 hqo hbel; have z1 : w2.cell? ⟨w0.heap.size + 16, 0, none⟩ = some qv := ((hR.setOther (a := ⟨w0.heap.size + 1, v, none⟩) (by show w0.heap.size + 16 ≠ w0.heap.size + 1; omega) (.int .i32 d)).of_block (hbel.block _ (by omega))).cell (i := 0) (by omega); have z2 : w2.frozen? ⟨w0.heap.size + 16, 0, none⟩ = false := ((hR.setOther (a := ⟨w0.heap.size + 1, v, none⟩) (by show w0.heap.size + 16 ≠ w0.heap.size + 1; omega) (.int .i32 d)).of_block (hbel.block _ (by omega))).frozen 0)
  go_goals
  have HB2 := HH.out.setQ hbel hqo
  generalize w2.setCell ⟨w0.heap.size + 16, 0, none⟩ (.slice (some ⟨g, off, none⟩) (qs.length + 1) cap) = w3 at HB2 ⊢
  have hA3 := ha.below HB2.bel
  have f1 := HB2.ax.cell (i := 0) (by omega)
  have f2 := hA3.row.cell (i := 3) (by omega)
  have f3 := hA3.txn.cell hv
  simp only [accF, show ¬ (3 : Nat) = 0 by omega, show ¬ (3 : Nat) = 1 by omega, show ¬ (3 : Nat) = 2 by omega, if_false] at f2
  clear hqo hbel z1 z2 HH HQ hR e1 e2 e2f e3 e3f hsz
  by_cases h0 : 0 < idx (D.inT v) D.N
  · have hta := (hA3.txnE v 0 hv h0).1
    rw [hta] at f3
    clear hA3
    go_wp2
    clear f1 f2 f3
    go_loopw [27] (fun y wr => ∃ p : Nat, p ≤ idx (D.inT v) D.N ∧ y = .int .i64 p ∧ Hid (BS w0 wr A D M (fun x => if x = v then (d : Int) else dist x) (qs ++ [v]) (Vp D V v p))) (fun y _ => idx (D.inT v) D.N - (intOf y).toNat)
    case atStart => exact ⟨0, by omega, rfl, HB2.congrV (fun k o j _ _ _ => by unfold Vp; constructor; exact fun x => .inl x; exact fun x => x.resolve_right (fun ⟨q, hq, _⟩ => by omega))⟩
    case round =>
      clear HB2
      obtain ⟨p, hp, rfl, hB⟩ := hrel
      by_cases hlt : p < idx (D.inT v) D.N
      · have hAr := ha.below hB.out.bel
        obtain ⟨x, hx⟩ : ∃ x, x = nth (D.inT v) D.N p := ⟨_, rfl⟩
        obtain ⟨n1, n2, n3⟩ := nth_ok (D.inT v) hlt
        have hxc := (hAr.txnE v p hv hlt).2
        rw [← hx] at n1 n2 n3 hxc
        obtain ⟨l0, l1, l2, l3, l4, l5⟩ := hAr.list x n1
        have hox := ha.olt x n1
        have htx := ha.tlt x n1
        have hle := ha.nle
        have hp0 : D.plc 0 x ≤ 1024 := Nat.le_trans (idx_le _ _) (by omega)
        have hp1 : D.plc 1 x ≤ 1024 := Nat.le_trans (idx_le _ _) (by omega)
        have g1 := hB.out.ax.cell (i := 0) (by omega)
        have g2 := hAr.row.cell (i := 0) (by omega)
        simp only [accF, if_true] at g2
        rw [l0] at g2
        have HX : Hid (x = nth (D.inT v) D.N p ∧ D.inT v x = true) := ⟨hx, n2⟩
        have hsz := hB.out.size
        have hidx := idx_le (D.inT v) D.N
        clear hx n2 n3 hAr l0
        go_upto_region 6 with fail
        have HB4 := hB.out.alloc (.cells #[.int .i32 (D.T x), .int .i32 (D.O x), .bool (D.W x), .int .i32 (D.plc 0 x), .int .i32 (D.plc 1 x)] 60)
        have a1 : (wr.alloc (.cells #[.int .i32 (D.T x), .int .i32 (D.O x), .bool (D.W x), .int .i32 (D.plc 0 x), .int .i32 (D.plc 1 x)] 60)).cell? ⟨wr.heap.size, 1, none⟩ = some (.int .i32 (D.O x)) := by simp
        have a2 : (wr.alloc (.cells #[.int .i32 (D.T x), .int .i32 (D.O x), .bool (D.W x), .int .i32 (D.plc 0 x), .int .i32 (D.plc 1 x)] 60)).cell? ⟨wr.heap.size, 2, none⟩ = some (.bool (D.W x)) := by simp
        have a3 : (wr.alloc (.cells #[.int .i32 (D.T x), .int .i32 (D.O x), .bool (D.W x), .int .i32 (D.plc 0 x), .int .i32 (D.plc 1 x)] 60)).cell? ⟨wr.heap.size, 3, none⟩ = some (.int .i32 (D.plc 0 x)) := by simp
        have a4 : (wr.alloc (.cells #[.int .i32 (D.T x), .int .i32 (D.O x), .bool (D.W x), .int .i32 (D.plc 0 x), .int .i32 (D.plc 1 x)] 60)).cell? ⟨wr.heap.size, 4, none⟩ = some (.int .i32 (D.plc 1 x)) := by simp
        generalize wr.alloc (.cells #[.int .i32 (D.T x), .int .i32 (D.O x), .bool (D.W x), .int .i32 (D.plc 0 x), .int .i32 (D.plc 1 x)] 60) = w4 at HB4 a1 a2 a3 a4 ⊢
        generalize wr.heap.size = ab at a1 a2 a3 a4 hsz ⊢
        clear hB l1 l2 l3 l4 l5 g1 g2 hxc
        have b0 := HB4.lv.cell (i := 0) (by omega)
        have b1 := HB4.row0 (D.O x) hox
        have hpl : D.plc 0 x < D.len 0 (D.O x) := idx_lt _ (by simp [Dat.inL]) n1
        obtain ⟨L, hL1, hL2⟩ := HB4.links 0 (D.O x) (by omega) hox
        have hL1' : w4.rowIs (w0.heap.size + 6 + D.O x) 21 (D.len 0 (D.O x) + 1) (i32row L) := by simpa using hL1
        have hlen0 : D.len 0 (D.O x) ≤ 1024 := Nat.le_trans (idx_le _ _) hle
        have HV : Hid _ := HB4.visit 0 (D.O x) (D.plc 0 x) (by omega) hox hpl
        simp only [Nat.mul_zero, Nat.add_zero] at b0
        clear hL1 hL2
        have hoxI : (D.O x : Int) < 4 := by omega
        have hfar : ∀ b' o' : Nat, b' ≠ w0.heap.size + 6 + D.O x → (w4.setCell ⟨w0.heap.size + 6 + D.O x, D.plc 0 x, none⟩ (.int .i32 (D.plc 0 x + 1))).cell? ⟨b', o', none⟩ = w4.cell? ⟨b', o', none⟩ := fun b' o' hne => World.cell?_setCell_other _ _ _ _ (fun e => hne (congrArg Addr.block e).symm)
        have k0 := (hfar (w0.heap.size + 15) 0 (by omega)).trans b0
        have k1 := (hfar ab 1 (by omega)).trans a1
        have k2 := (hfar ab 2 (by omega)).trans a2
        have k3 := (hfar ab 3 (by omega)).trans a3
        have k4 := (hfar ab 4 (by omega)).trans a4
        have k5 := (hfar (w0.heap.size + 5) (D.O x) (by omega)).trans b1
        clear hfar
        go_region_held3 (fun w' => w'.cell? ⟨w0.heap.size + 15, 0, none⟩ = some (.slice (some ⟨w0.heap.size + 5, 0, none⟩) 4 4) ∧ w'.cell? ⟨ab, 1, none⟩ = some (.int .i32 (D.O x)) ∧ w'.cell? ⟨ab, 3, none⟩ = some (.int .i32 (D.plc 0 x)) ∧ w'.cell? ⟨w0.heap.size + 5, D.O x, none⟩ = some (.slice (some ⟨w0.heap.size + 6 + D.O x, 0, none⟩) (D.len 0 (D.O x) + 1) (D.len 0 (D.O x) + 1))) (first | exact ⟨b0, a1, a3, b1⟩ | exact ⟨k0, k1, k3, k5⟩) (first | (go_at_call 14; refine (visit_any (w0.heap.size + 6 + D.O x) (D.len 0 (D.O x) + 1) (D.plc 0 x) _ (by omega) (by omega) hL1'.drew).mono ?_; rintro e w5 ⟨rfl, rfl⟩))
        have HV' : BS w0 (w4.setCell ⟨w0.heap.size + 6 + D.O x, D.plc 0 x, none⟩ (.int .i32 (D.plc 0 x + 1))).drew A D M (fun x => if x = v then (d : Int) else dist x) (qs ++ [v]) (fun k' o' j' => Vp D V v p k' o' j' ∨ (k' = 0 ∧ o' = D.O x ∧ j' = D.plc 0 x)) := by
          have := HV.out.drew
          simpa using this
        have kk1 := k1
        clear HV b0 b1 a1 a2 a3 a4 k0 k1 k3 k5 hL1' HB4
        have k2' : (w4.setCell ⟨w0.heap.size + 6 + D.O x, D.plc 0 x, none⟩ (.int .i32 (D.plc 0 x + 1))).drew.cell? ⟨ab, 2, none⟩ = some (.bool (D.W x)) := k2
        have k4' : (w4.setCell ⟨w0.heap.size + 6 + D.O x, D.plc 0 x, none⟩ (.int .i32 (D.plc 0 x + 1))).drew.cell? ⟨ab, 4, none⟩ = some (.int .i32 (D.plc 1 x)) := k4
        clear k2 k4
        have k1' : (w4.setCell ⟨w0.heap.size + 6 + D.O x, D.plc 0 x, none⟩ (.int .i32 (D.plc 0 x + 1))).drew.cell? ⟨ab, 1, none⟩ = some (.int .i32 (D.O x)) := kk1
        generalize (w4.setCell ⟨w0.heap.size + 6 + D.O x, D.plc 0 x, none⟩ (.int .i32 (D.plc 0 x + 1))).drew = w6 at HV' k1' k2' k4' ⊢
        by_cases hw : D.W x = true
        · rw [hw] at k2'
          have HW : Hid (D.W x = true) := hw
          clear hw
          go_upto_region 8 with fail
          have b0 := HV'.lv.cell (i := 1) (by omega)
          have b1 := HV'.row1 (D.O x) hox
          have hpl1 : D.plc 1 x < D.len 1 (D.O x) := idx_lt _ (by simp [Dat.inL, HW.out]) n1
          obtain ⟨L1, hL1, hL2⟩ := HV'.links 1 (D.O x) (by omega) hox
          have hL1' : w6.rowIs (w0.heap.size + 11 + D.O x) 21 (D.len 1 (D.O x) + 1) (i32row L1) := by
            rw [show w0.heap.size + 11 + D.O x = w0.heap.size + 6 + 5 * 1 + D.O x by omega]; exact hL1
          have hlen1 : D.len 1 (D.O x) ≤ 1024 := Nat.le_trans (idx_le _ _) hle
          have HV : Hid _ := HV'.visit 1 (D.O x) (D.plc 1 x) (by omega) hox hpl1
          simp only [Nat.mul_one, show w0.heap.size + 5 + 5 = w0.heap.size + 10 by omega] at b0
          have hfar : ∀ b' o' : Nat, b' ≠ w0.heap.size + 11 + D.O x → (w6.setCell ⟨w0.heap.size + 11 + D.O x, D.plc 1 x, none⟩ (.int .i32 (D.plc 1 x + 1))).cell? ⟨b', o', none⟩ = w6.cell? ⟨b', o', none⟩ := fun b' o' hne => World.cell?_setCell_other _ _ _ _ (fun e => hne (congrArg Addr.block e).symm)
          have j0 := (hfar (w0.heap.size + 15) 1 (by omega)).trans b0
          have j1 := (hfar ab 1 (by omega)).trans k1'
          have j4 := (hfar ab 4 (by omega)).trans k4'
          have j5 := (hfar (w0.heap.size + 10) (D.O x) (by omega)).trans b1
          clear hfar hL1 hL2 HV' k2'
          go_region_held3 (fun w' => w'.cell? ⟨w0.heap.size + 15, 1, none⟩ = some (.slice (some ⟨w0.heap.size + 10, 0, none⟩) 4 4) ∧ w'.cell? ⟨ab, 1, none⟩ = some (.int .i32 (D.O x)) ∧ w'.cell? ⟨ab, 4, none⟩ = some (.int .i32 (D.plc 1 x)) ∧ w'.cell? ⟨w0.heap.size + 10, D.O x, none⟩ = some (.slice (some ⟨w0.heap.size + 11 + D.O x, 0, none⟩) (D.len 1 (D.O x) + 1) (D.len 1 (D.O x) + 1))) (first | exact ⟨b0, k1', k4', b1⟩ | exact ⟨j0, j1, j4, j5⟩) (first | (go_at_call 14; refine (visit_any (w0.heap.size + 11 + D.O x) (D.len 1 (D.O x) + 1) (D.plc 1 x) _ (by omega) (by omega) hL1'.drew).mono ?_; rintro e w5 ⟨rfl, rfl⟩))
          clear b0 b1 j0 j1 j4 j5 hL1' k1' k4'
          go_wp2
          go_roundw
          case rel =>
            refine ⟨p + 1, by omega, by go_num, ?_⟩
            have h9 := HV.out.drew
            rw [show w0.heap.size + 6 + 5 * 1 + D.O x = w0.heap.size + 11 + D.O x by omega] at h9
            rw [show ((D.plc 1 x + 1 : Nat) : Int) = (D.plc 1 x : Int) + 1 from by omega] at h9
            refine h9.congrV (fun k o j hk ho hj => ?_)
            rw [Vp_step, ← HX.out.1, inL_iff]
            constructor
            · rintro ((h | ⟨rfl, rfl, rfl⟩) | ⟨rfl, rfl, rfl⟩)
              · exact .inl h
              · exact .inr ⟨⟨rfl, .inl rfl⟩, rfl⟩
              · exact .inr ⟨⟨rfl, .inr HW.out⟩, rfl⟩
            · rintro (h | ⟨⟨rfl, _⟩, rfl⟩)
              · exact .inl (.inl h)
              · obtain rfl | rfl : k = 0 ∨ k = 1 := by omega
                · exact .inl (.inr ⟨rfl, rfl, rfl⟩)
                · exact .inr ⟨rfl, rfl, rfl⟩
          case measure => simp [intOf]; omega
        · have hw' : D.W x = false := by simpa using hw
          rw [hw'] at k2'
          have HW : Hid (D.W x = false) := hw'
          clear hw hw'
          have HVV : Hid _ := HV'
          clear HV'
          go_wp2
          go_roundw
          case rel =>
            refine ⟨p + 1, by omega, by go_num, ?_⟩
            refine HVV.out.congrV (fun k o j hk ho hj => ?_)
            rw [Vp_step, ← HX.out.1, inL_iff]
            constructor
            · rintro (h | ⟨rfl, rfl, rfl⟩)
              · exact .inl h
              · exact .inr ⟨⟨rfl, .inl rfl⟩, rfl⟩
            · rintro (h | ⟨⟨rfl, h1⟩, rfl⟩)
              · exact .inl h
              · rcases h1 with rfl | h1
                · exact .inr ⟨rfl, rfl, rfl⟩
                · rw [HW.out] at h1; cases h1
          case measure => simp [intOf]; omega
      · obtain rfl : p = idx (D.inT v) D.N := by omega
        have HE : Hid _ := hB.out.congrV (fun k o j _ _ hj => Vp_end D V v k o j hj)
        clear hB
        go_wp2
        go_end0
        exact ⟨rfl, HE.out⟩
  · have h0' : idx (D.inT v) D.N = 0 := by omega
    have HE : Hid (BS w0 w3 A D M (fun x => if x = v then (d : Int) else dist x) (qs ++ [v]) (fun k o j => V k o j ∨ D.T (nth (D.inL k o) D.N j) = v)) := HB2.congrV (fun k o j _ _ hj => by
      rw [← Vp_end D V v k o j hj, h0']
      unfold Vp
      exact ⟨fun x => .inl x, fun x => x.resolve_right (fun ⟨q, hq, _⟩ => by omega)⟩)
    rw [h0'] at f3
    clear HB2 hA3 h0 h0'
    go_wp2
    refine wp_loop_rounds 1 ?_
    rw [rounds_succ]
    go_wp2
    go_end0
    exact ⟨rfl, HE.out⟩
end Go.Proofs.Ybulkxos
