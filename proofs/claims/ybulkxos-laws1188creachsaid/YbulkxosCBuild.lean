/-
  THE WALK of zzs1188cbuild (9).
-/
import Derived.Test.YbulkxosCFam
import Derived.Deep.DeepCutAuto
import Derived.Deep.LoopGhost
import Derived.Deep.RegionLaw
import Derived.Test.YbulkxosCR14
import Derived.Test.YbulkxosCR16
import Derived.Test.YbulkxosCR17
namespace Go.Proofs.Ybulkxos
open Go.RowKit
set_option linter.unusedVariables false
set_option linter.unusedSimpArgs false

theorem Yba.info50 : (Yba.prog.info? 50).map (fun i => (i.zero, i.size, i.bytes)) = some (some (.slice none 0 0), 1, 24) := by kernel_rfl
theorem Yba.info60 : (Yba.prog.info? 60).map (fun i => (i.zero, i.size, i.bytes)) = some (some (.agg #[.int .i32 0, .int .i32 0, .bool false, .int .i32 0, .int .i32 0]), 5, 20) := by kernel_rfl

/-- the operations in memory -/
def OpsAt (w : World) (oa : Option Addr) (n : Nat) (p q : Nat → Nat) (W : Nat → Bool) : Prop :=
  ∀ x, x < n → ∃ b o, oa = some ⟨b, o, none⟩ ∧ w.cell? ⟨b, o + x * 3, none⟩ = some (.int .u8 (p x : Nat)) ∧ w.cell? ⟨b, o + x * 3 + 1, none⟩ = some (.int .u8 (q x : Nat)) ∧ w.cell? ⟨b, o + x * 3 + 2, none⟩ = some (.bool (W x)) ∧ p x < 256 ∧ q x < 256

theorem Fam.start (w0 : World) (D : Dat) : Fam w0 ((((w0.alloc (.cells #[.slice none 0 0, .slice (some ⟨w0.heap.size + 1, 0, none⟩) 4 4, .slice (some ⟨w0.heap.size + 1 + 1, 0, none⟩) 4 4, .slice (some ⟨w0.heap.size + 1 + 1 + 1, 0, none⟩) 8 8] 58)).alloc
    (.cells (madeCells #[.slice none 0 0] 4) 50)).alloc (.cells (madeCells #[.slice none 0 0] 4) 50)).alloc (.cells (madeCells #[.slice none 0 0] 8) 50)).drew.drew D (fun _ => 0) 0 (fun _ => .slice none 0 0) (.slice none 0 0) := by
  have h1 := World.rowIs_alloc w0 #[.slice none 0 0, .slice (some ⟨w0.heap.size + 1, 0, none⟩) 4 4, .slice (some ⟨w0.heap.size + 1 + 1, 0, none⟩) 4 4, .slice (some ⟨w0.heap.size + 1 + 1 + 1, 0, none⟩) 8 8] 58 (hdrF w0.heap.size (.slice none 0 0)) (fun j hj => by simp at hj; match j, hj with | 0, _ => rfl | 1, _ => rfl | 2, _ => rfl | 3, _ => rfl)
  generalize hw1 : w0.alloc (.cells #[.slice none 0 0, .slice (some ⟨w0.heap.size + 1, 0, none⟩) 4 4, .slice (some ⟨w0.heap.size + 1 + 1, 0, none⟩) 4 4, .slice (some ⟨w0.heap.size + 1 + 1 + 1, 0, none⟩) 8 8] 58) = w1 at h1 ⊢
  have hz1 : w1.heap.size = w0.heap.size + 1 := by rw [← hw1]; simp
  have hb1 : Below w0.heap.size w0 w1 := by rw [← hw1]; exact (Below.refl _ _).alloc (Nat.le_refl _) _
  clear hw1
  have h2 := World.rowIs_made w1 (.slice none 0 0) 4 50
  have h3 := World.rowIs_made (w1.alloc (.cells (madeCells #[.slice none 0 0] 4) 50)) (.slice none 0 0) 4 50
  have h4 := World.rowIs_made ((w1.alloc (.cells (madeCells #[.slice none 0 0] 4) 50)).alloc (.cells (madeCells #[.slice none 0 0] 4) 50)) (.slice none 0 0) 8 50
  simp only [World.size_alloc, hz1] at h2 h3 h4
  refine ⟨(((hb1.alloc (by omega) _).alloc (by simp; omega) _).alloc (by simp; omega) _).drew.drew, by simp [hz1], (((h1.alloc _).alloc _).alloc _).drew.drew, ((h2.alloc _).alloc _).drew.drew, (h3.alloc _).drew.drew, h4.drew.drew, fun s hs => World.ownsRow_nil _ _ _ _, World.ownsRow_nil _ _ _ _, fun s s' g _ _ h => by simp [Value.ownBlock] at h⟩

set_option maxHeartbeats 4000000 in
set_option maxRecDepth 100000 in
theorem build_any (w0 : World) (oa : Option Addr) (cap : Nat) (D : Dat) (p q : Nat → Nat) (hops : OpsAt w0 oa D.N p q D.W) (hn : D.N ≤ 1024) (hT : ∀ x, x < D.N → D.T x = p x % 8) (hO : ∀ x, x < D.N → D.O x = q x % 4) :
    Calls Yba.prog 9 #[.slice oa D.N cap] w0 fun e w' => ∃ M, e = .returned (.pointer (some ⟨w0.heap.size, 0, none⟩)) ∧ Acc w' w0.heap.size D M ∧ Below w0.heap.size w0 w' := by
  have hmk4 : ∀ W : World, (Instr.makeSlice 55 (.int .i64 4) (.int .i64 4)).run Yba.prog W = .ok (.slice (some ⟨W.heap.size, 0, none⟩) 4 4) (W.alloc (.cells (madeCells #[.slice none 0 0] 4) 50)) :=
    run_make_row' (P := Yba.prog) 55 50 (.slice none 0 0) 24 Yba.underlying55 Yba.info50 rfl .i64 .i64 4 (by omega) (by omega)
  have hmk8 : ∀ W : World, (Instr.makeSlice 55 (.int .i64 8) (.int .i64 8)).run Yba.prog W = .ok (.slice (some ⟨W.heap.size, 0, none⟩) 8 8) (W.alloc (.cells (madeCells #[.slice none 0 0] 8) 50)) :=
    run_make_row' (P := Yba.prog) 55 50 (.slice none 0 0) 24 Yba.underlying55 Yba.info50 rfl .i64 .i64 8 (by omega) (by omega)
  go_enter Yba.func9, Yba.ntmps9
  go_upto_region 2 with fail
  go_region
  go_upto_region 3 with fail
  go_region
  go_wp2
  clear hmk4 hmk8
  go_loopg [4] D.N (fun gg x wr => ∃ (k : Nat) (val : Nat → Value) (lv : Value), k ≤ D.N ∧ gg = D.N - k ∧ x = .int .i64 k ∧ Hid (Fam w0 wr D (fun _ => k) k val lv))
  case atStart => exact ⟨0, fun _ => .slice none 0 0, .slice none 0 0, by omega, by omega, rfl, Fam.start w0 D⟩
  case round =>
    obtain ⟨k, val, lv, hk, hgk, rfl, hF⟩ := hrel
    have HGK : Hid (gk = D.N - k) := hgk
    clear hgk
    by_cases hlt : k < D.N
    · obtain ⟨ob, oo, rfl, x1, x2, x3, hp, hq⟩ := hops k hlt
      have hTk := hT k hlt
      have hOk := hO k hlt
      clear hops hT hO
      have y1 := (hF.out.bel.cell (World.block_lt_of_cell? _ _ x1)).trans x1
      have y2 := (hF.out.bel.cell (World.block_lt_of_cell? _ _ x2)).trans x2
      have y3 := (hF.out.bel.cell (World.block_lt_of_cell? _ _ x3)).trans x3
      clear x1 x2 x3
      have eT : ((p k : Int) % 8) = (D.T k : Nat) := by rw [hTk]; omega
      have eO : ((q k : Int) % 4) = (D.O k : Nat) := by rw [hOk]; omega
      have hTlt : D.T k < 8 := by rw [hTk]; omega
      have hOlt : D.O k < 4 := by rw [hOk]; omega
      have HE : Hid (((p k : Int) % 8) = (D.T k : Nat) ∧ ((q k : Int) % 4) = (D.O k : Nat)) := ⟨eT, eO⟩
      clear eT eO hTk hOk
      go_upto_region 11 with fail
      rw [HE.out.1, HE.out.2]
      have hF1 := hF.out.alloc (.cells #[.int .u8 (p k : Nat), .int .u8 (q k : Nat), .bool (D.W k)] 65)
      have HV : Hid ((wr.alloc (.cells #[.int .u8 (p k : Nat), .int .u8 (q k : Nat), .bool (D.W k)] 65)).heap[wr.heap.size]? = some (.cells #[.int .u8 (p k : Nat), .int .u8 (q k : Nat), .bool (D.W k)] 65 (0, 0))) := heap_alloc_new _ _
      generalize wr.alloc (.cells #[.int .u8 (p k : Nat), .int .u8 (q k : Nat), .bool (D.W k)] 65) = w1 at hF1 HV ⊢
      have hvbA : w0.heap.size + 4 ≤ wr.heap.size := hF.out.size
      generalize wr.heap.size = vb at HV hvbA ⊢
      have v3 : w1.cell? ⟨vb, 2, none⟩ = some (.bool (D.W k)) := by have := HV.out; simp [World.cell?, this]
      clear hF y1 y2 y3 HE hp hq
      have e0 : val (D.O k) = .slice (sAddr (val (D.O k))) (D.plc 0 k) (sCap (val (D.O k))) := by
        have := (own_form (hF1.own (D.O k) (by omega))).1
        have hs := slot_obj D 0 (D.O k) (by omega) hOlt
        rw [show 4 * 0 + D.O k = D.O k by omega] at hs
        rw [hs] at this
        exact this
      have e1 : val (4 + D.O k) = .slice (sAddr (val (4 + D.O k))) (D.plc 1 k) (sCap (val (4 + D.O k))) := by
        have := (own_form (hF1.own (4 + D.O k) (by omega))).1
        have hs := slot_obj D 1 (D.O k) (by omega) hOlt
        rw [show 4 * 1 + D.O k = 4 + D.O k by omega] at hs
        rw [hs] at this
        exact this
      have c1 := hF1.row.cell (i := 1) (by omega)
      have c2 := hF1.row.cell (i := 2) (by omega)
      have d0 := hF1.o0.cell hOlt
      have d1 := hF1.o1.cell hOlt
      rw [e0] at d0
      rw [e1] at d1
      simp only [hdrF, show ¬ (1 : Nat) = 0 by omega, show ¬ (2 : Nat) = 0 by omega, show ¬ (2 : Nat) = 1 by omega, if_false, if_true] at c1 c2
      generalize sAddr (val (D.O k)) = a0 at d0
      generalize sCap (val (D.O k)) = q0 at d0
      generalize sAddr (val (4 + D.O k)) = a1 at d1
      generalize sCap (val (4 + D.O k)) = q1 at d1
      have hOI : (D.O k : Int) < 4 := by omega
      have hTI : (D.T k : Int) < 8 := by omega
      have hpl0 : D.plc 0 k ≤ 1024 := Nat.le_trans (idx_le _ _) (by omega)
      have hpl1 : D.plc 1 k ≤ 1024 := Nat.le_trans (idx_le _ _) (by omega)
      have hkl : k ≤ 1024 := by omega
      clear e0 e1
      have hvb := World.block_lt_of_cell? _ _ v3
      have ne0 := World.new_ne w1 _ v3
      have ne1 := World.new_ne w1 _ c1
      have ne2 := World.new_ne w1 _ d0
      have ne3 := World.new_ne w1 _ d1
      go_region_held3 (fun w' => w'.cell? ⟨vb, 2, none⟩ = some (.bool (D.W k)) ∧ w'.cell? ⟨w0.heap.size, 1, none⟩ = some (.slice (some ⟨w0.heap.size + 1, 0, none⟩) 4 4) ∧ w'.cell? ⟨w0.heap.size, 2, none⟩ = some (.slice (some ⟨w0.heap.size + 2, 0, none⟩) 4 4) ∧
        w'.cell? ⟨w0.heap.size + 1, D.O k, none⟩ = some (.slice a0 (D.plc 0 k) q0) ∧ w'.cell? ⟨w0.heap.size + 2, D.O k, none⟩ = some (.slice a1 (D.plc 1 k) q1)) (go_keep) (fail)
      rw [show IntKind.i32.wrap (D.plc 0 k : Int) = (D.plc 0 k : Int) by rw [IntKind.wrap_i32]; omega, show IntKind.i32.wrap (D.plc 1 k : Int) = (D.plc 1 k : Int) by rw [IntKind.wrap_i32]; omega]
      clear v3 c1 c2 d0 d1 ne0 ne1 ne2 ne3
      have hF2 := (hF1.alloc (.cells #[.int .i32 (D.T k : Nat), .int .i32 (D.O k : Nat), .bool (D.W k), .int .i32 (D.plc 0 k : Nat), .int .i32 (D.plc 1 k : Nat)] 60)).drew
      have HV2 : Hid ((w1.alloc (.cells #[.int .i32 (D.T k : Nat), .int .i32 (D.O k : Nat), .bool (D.W k), .int .i32 (D.plc 0 k : Nat), .int .i32 (D.plc 1 k : Nat)] 60)).drew.heap[vb]? = some (.cells #[.int .u8 (p k : Nat), .int .u8 (q k : Nat), .bool (D.W k)] 65 (0, 0))) := (Deep.blk_alloc_lt _ _ _ (Array.getElem?_eq_some_iff.1 HV.out).1).trans HV.out
      have HA2 : Hid ((w1.alloc (.cells #[.int .i32 (D.T k : Nat), .int .i32 (D.O k : Nat), .bool (D.W k), .int .i32 (D.plc 0 k : Nat), .int .i32 (D.plc 1 k : Nat)] 60)).drew.heap[w1.heap.size]? = some (.cells #[.int .i32 (D.T k : Nat), .int .i32 (D.O k : Nat), .bool (D.W k), .int .i32 (D.plc 0 k : Nat), .int .i32 (D.plc 1 k : Nat)] 60 (0, 0))) := heap_alloc_new _ _
      have hlvn : some w1.heap.size ≠ lv.ownBlock := fun e => by have := (own_lt hF1.lown e.symm).2.1; omega
      generalize (w1.alloc (.cells #[.int .i32 (D.T k : Nat), .int .i32 (D.O k : Nat), .bool (D.W k), .int .i32 (D.plc 0 k : Nat), .int .i32 (D.plc 1 k : Nat)] 60)).drew = w2 at hF2 HV2 HA2 ⊢
      clear HV hF1
      generalize w1.heap.size = ab at HA2 hlvn ⊢
      go_upto_region 13 with fail
      go_cut [] from 26 to 134 (fun wx => ∃ lv', Hid (Fam w0 wx D (fun _ => k) (k + 1) val lv' ∧ wx.heap[vb]? = some (.cells #[.int .u8 (p k : Nat), .int .u8 (q k : Nat), .bool (D.W k)] 65 (0, 0))))
      case first =>
        have hFW := (hF2.alloc (.cells #[.int .i32 (D.T k : Nat), .int .i32 (D.O k : Nat), .bool (D.W k), .int .i32 (D.plc 0 k : Nat), .int .i32 (D.plc 1 k : Nat)] 60)).drew
        have hnb := World.news_of_block (w := (w2.alloc (.cells #[.int .i32 (D.T k : Nat), .int .i32 (D.O k : Nat), .bool (D.W k), .int .i32 (D.plc 0 k : Nat), .int .i32 (D.plc 1 k : Nat)] 60)).drew) (B := w2.heap.size) (cs := #[.int .i32 (D.T k : Nat), .int .i32 (D.O k : Nat), .bool (D.W k), .int .i32 (D.plc 0 k : Nat), .int .i32 (D.plc 1 k : Nat)]) (t := 60) (fr := (0, 0)) (heap_alloc_new _ _)
        have hz : w2.heap.size + 1 = (w2.alloc (.cells #[.int .i32 (D.T k : Nat), .int .i32 (D.O k : Nat), .bool (D.W k), .int .i32 (D.plc 0 k : Nat), .int .i32 (D.plc 1 k : Nat)] 60)).drew.heap.size := by simp
        have r0 := hF2.row.cell (i := 0) (by omega)
        simp only [hdrF, if_true] at r0
        have ne1 := World.new_ne w2 _ r0
        have b0 : w2.cell? ⟨ab, 0, none⟩ = some (.int .i32 (D.T k : Nat)) := by have := HA2.out; simp [World.cell?, this]
        have b1 : w2.cell? ⟨ab, 1, none⟩ = some (.int .i32 (D.O k : Nat)) := by have := HA2.out; simp [World.cell?, this]
        have b2 : w2.cell? ⟨ab, 2, none⟩ = some (.bool (D.W k)) := by have := HA2.out; simp [World.cell?, this]
        have b3 : w2.cell? ⟨ab, 3, none⟩ = some (.int .i32 (D.plc 0 k : Nat)) := by have := HA2.out; simp [World.cell?, this]
        have b4 : w2.cell? ⟨ab, 4, none⟩ = some (.int .i32 (D.plc 1 k : Nat)) := by have := HA2.out; simp [World.cell?, this]
        have ne2 := World.new_ne w2 _ b0
        have hsz := hF2.size
        have hAlt : w0.heap.size < w2.heap.size := by omega
        have hl60 : (accV D k).length = 1 * 5 := rfl
        have hnb' : ∀ j u, (accV D k)[j]? = some u → (w2.alloc (.cells #[.int .i32 (D.T k : Nat), .int .i32 (D.O k : Nat), .bool (D.W k), .int .i32 (D.plc 0 k : Nat), .int .i32 (D.plc 1 k : Nat)] 60)).drew.cell? ((⟨w2.heap.size, 0, none⟩ : Addr).add j) = some u := hnb
        have hone : ∀ u ∈ accV D k, u.oneCell' = true := by intro u hu; simp [accV] at hu; rcases hu with rfl | rfl | rfl | rfl | rfl <;> rfl
        obtain ⟨i0, hi, hz0, hz1, hz2⟩ := info_parts Yba.info60
        have hAf : ∀ w3, ((w2.alloc (.cells #[.int .i32 (D.T k : Nat), .int .i32 (D.O k : Nat), .bool (D.W k), .int .i32 (D.plc 0 k : Nat), .int .i32 (D.plc 1 k : Nat)] 60)).drew).grownBy w3 lv.ownBlock → w3.cell? ⟨ab, 0, none⟩ = some (.int .i32 (D.T k : Nat)) ∧ w3.cell? ⟨ab, 1, none⟩ = some (.int .i32 (D.O k : Nat)) ∧ w3.cell? ⟨ab, 2, none⟩ = some (.bool (D.W k)) ∧ w3.cell? ⟨ab, 3, none⟩ = some (.int .i32 (D.plc 0 k : Nat)) ∧ w3.cell? ⟨ab, 4, none⟩ = some (.int .i32 (D.plc 1 k : Nat)) ∧ w3.cell? ⟨w0.heap.size, 0, none⟩ = some lv ∧ w3.frozen? ⟨w0.heap.size, 0, none⟩ = false := by
          intro w3 hg
          have hH := hFW.hdrs_of hg hFW.lown_ge
          have hb : ∀ o u, w2.cell? ⟨ab, o, none⟩ = some u → w3.cell? ⟨ab, o, none⟩ = some u := fun o u hu => hg.cell ((World.cell?_alloc_lt _ _ _ (World.block_lt_of_cell? _ _ hu)).trans hu) hlvn
          exact ⟨hb _ _ b0, hb _ _ b1, hb _ _ b2, hb _ _ b3, hb _ _ b4, by have := hH.1.cell (i := 0) (by omega); simpa [hdrF] using this, hH.1.frozen 0⟩
        have hVf : ∀ w3, ((w2.alloc (.cells #[.int .i32 (D.T k : Nat), .int .i32 (D.O k : Nat), .bool (D.W k), .int .i32 (D.plc 0 k : Nat), .int .i32 (D.plc 1 k : Nat)] 60)).drew).grownBy w3 lv.ownBlock → w3.heap[vb]? = some (.cells #[.int .u8 (p k : Nat), .int .u8 (q k : Nat), .bool (D.W k)] 65 (0, 0)) := by
          intro w3 hg
          have hv : ((w2.alloc (.cells #[.int .i32 (D.T k : Nat), .int .i32 (D.O k : Nat), .bool (D.W k), .int .i32 (D.plc 0 k : Nat), .int .i32 (D.plc 1 k : Nat)] 60)).drew).heap[vb]? = some (.cells #[.int .u8 (p k : Nat), .int .u8 (q k : Nat), .bool (D.W k)] 65 (0, 0)) := (Deep.blk_alloc_lt _ _ _ (Array.getElem?_eq_some_iff.1 HV2.out).1).trans HV2.out
          exact (hg.block vb (Array.getElem?_eq_some_iff.1 hv).1 (hFW.lfar hv (by decide))).trans hv
        have HVF : Hid _ := hVf
        clear hVf
        go_region_law
          (first | (refine step_append_lies _ rfl (.tmp 75) (.tmp 77) 54 rfl (w0.heap.size + 4) 60 i0 _ 5 20 Yba.underlying54 hi hz0 hz1 hz2 rfl (by decide) lv k ((List.range k).flatMap (accV D)) rfl hFW.lown ⟨w2.heap.size, 0, none⟩ 1 1 (accV D k) rfl hl60 hnb' hone (by decide) (by unfold maxLen; omega) (by omega) (by omega) (w2.heap.size + 1) hz.symm ?_; intro g cp w3 hown hgrow hat hlt; obtain ⟨q0, q1, q2, q3, q4, q5, q6⟩ := hAf w3 hgrow))
        all_goals go_wp2_with fail
        all_goals go_meet
        all_goals (refine ⟨_, hFW.lpush g cp hown hgrow, ?_⟩; exact (Deep.blk_setCell_other _ _ _ _ (by show vb ≠ w0.heap.size; omega)).trans (HVF.out w3 hgrow))
      case rest =>
        obtain ⟨lv1, hF3⟩ := hcut
        clear hF2 HV2 HA2 hlvn
        have HC1 : Hid (∀ s, (fun _ => k : Nat → Nat) s = k) := fun _ => rfl
        generalize (fun _ => k : Nat → Nat) = c1 at hF3 HC1
        have HPN : Hid (∀ s, s < 16 → slotP D s k = true → s = D.O k ∨ (D.W k = true ∧ s = 4 + D.O k) ∨ s = 8 + D.T k) := by
          intro s hs h
          unfold slotP Dat.inL Dat.inT at h
          by_cases e1 : s < 4
          · simp [e1] at h; omega
          · by_cases e2 : s < 8
            · simp [e1, e2] at h; exact .inr (.inl ⟨h.2, by omega⟩)
            · simp [e1, e2] at h; omega
        have hk24 : k < 1024 := by omega
        go_upto_region 14 with fail
        refine reg14 w0 wc D c1 k vb val lv1 #[.int .u8 (p k : Nat), .int .u8 (q k : Nat), .bool (D.W k)] _ _ _ _ _ _ _ _ _ _ _ _ _ _ _ _ _ _ _ _ _ _ _ _ _ _ _ _ _ _ _ _ _ _ _ _ _ _ _ _ _ _ _ _ _ _ _ _ _ _ _ _ _ _ _ _ _ _ _ _ _ _ _ _ _ _ _ _ _ _ _ _ _ _ _ _ _ _ _ _ _ _ _ _ _ _ _ _ _ _ _ _ _ _ _ _ _ _ _ _ _ _ _ _ _ _ _ _ _ _ _ _ _ _ _ _ _ _ _ _ _ _ _ _ _ _ _ _ _ _ _ _ _ rfl hF3.out.1 hF3.out.2 hvbA hk24 hOlt hTlt (HC1.out _) (by simp [slotP, Dat.inL, Dat.inT, hOlt]) _ ?_
        intro x81 x82 x83 x84 x85 x86 x87 x88 x89 x90 x91 x92 x93 x94 x95 x96 x97 x98 w4 val1 f1 f2
        have HF4 : Hid (Fam w0 w4 D (putV c1 (D.O k) (k + 1)) (k + 1) val1 lv1 ∧ w4.heap[vb]? = some (.cells #[.int .u8 (p k : Nat), .int .u8 (q k : Nat), .bool (D.W k)] 65 (0, 0))) := ⟨f1, f2⟩
        have v3 : w4.cell? ⟨vb, 2, none⟩ = some (.bool (D.W k)) := by simp [World.cell?, f2]
        clear f1 f2 hF3
        have HLast : Hid (∀ (c3 : Nat → Nat) (wx : World) (val3 : Nat → Value), (∀ s, s = D.O k ∨ (D.W k = true ∧ s = 4 + D.O k) → c3 s = k + 1) → (∀ s, ¬ (s = D.O k ∨ (D.W k = true ∧ s = 4 + D.O k)) → c3 s = k) → Fam w0 wx D (putV c3 (8 + D.T k) (k + 1)) (k + 1) val3 lv1 → Fam w0 wx D (fun _ => k + 1) (k + 1) val3 lv1) := fun c3 wx val3 g1 g2 hF7 => hF7.bump _ (fun s hs => by
          by_cases e : s = 8 + D.T k
          · left; rw [e, putV_same]
          · rw [putV_other _ _ e]
            by_cases e2 : s = D.O k ∨ (D.W k = true ∧ s = 4 + D.O k)
            · left; rw [g1 s e2]
            · right
              rw [g2 s e2]
              refine ⟨rfl, ?_⟩
              cases hb : slotP D s k with
              | false => rfl
              | true =>
                rcases HPN.out s hs hb with x | x | x
                · exact (e2 (.inl x)).elim
                · exact (e2 (.inr x)).elim
                · exact (e x).elim)
        by_cases hW : D.W k = true
        · have HW : Hid (D.W k = true) := hW
          rw [hW] at v3
          clear hW
          go_upto_region 16 with fail
          clear v3
          refine reg16 w0 w4 D (putV c1 (D.O k) (k + 1)) k vb val1 lv1 #[.int .u8 (p k : Nat), .int .u8 (q k : Nat), .bool (D.W k)] _ _ _ _ _ _ _ _ _ _ _ _ _ _ _ _ _ _ _ _ _ _ _ _ _ _ _ _ _ _ _ _ _ _ _ _ _ _ _ _ _ _ _ _ _ _ _ _ _ _ _ _ _ _ _ _ _ _ _ _ _ _ _ _ _ _ _ _ _ _ _ _ _ _ _ _ _ _ _ _ _ _ _ _ _ _ _ _ _ _ _ _ _ _ _ _ _ _ _ _ _ _ _ _ _ _ _ _ _ _ _ _ _ _ _ _ _ _ _ _ _ _ _ _ _ _ _ _ _ _ _ _ _ rfl HF4.out.1 HF4.out.2 hvbA hk24 hOlt hTlt (by rw [putV_other _ _ (by omega)]; exact HC1.out _) (by have := slot_obj D 1 (D.O k) (by omega) hOlt; rw [show 4 * 1 + D.O k = 4 + D.O k by omega] at this; rw [this]; simp [Dat.inL, HW.out]) _ ?_
          intro x101 x102 x103 x104 x105 x106 x107 x108 x109 x110 x111 x112 x113 x114 x115 x116 x117 x118 w5 val2 f1 f2
          have HF5 : Hid (Fam w0 w5 D (putV (putV c1 (D.O k) (k + 1)) (4 + D.O k) (k + 1)) (k + 1) val2 lv1 ∧ w5.heap[vb]? = some (.cells #[.int .u8 (p k : Nat), .int .u8 (q k : Nat), .bool (D.W k)] 65 (0, 0))) := ⟨f1, f2⟩
          clear f1 f2 HF4
          go_upto_region 17 with fail
          refine reg17 w0 w5 D (putV (putV c1 (D.O k) (k + 1)) (4 + D.O k) (k + 1)) k vb val2 lv1 #[.int .u8 (p k : Nat), .int .u8 (q k : Nat), .bool (D.W k)] _ _ _ _ _ _ _ _ _ _ _ _ _ _ _ _ _ _ _ _ _ _ _ _ _ _ _ _ _ _ _ _ _ _ _ _ _ _ _ _ _ _ _ _ _ _ _ _ _ _ _ _ _ _ _ _ _ _ _ _ _ _ _ _ _ _ _ _ _ _ _ _ _ _ _ _ _ _ _ _ _ _ _ _ _ _ _ _ _ _ _ _ _ _ _ _ _ _ _ _ _ _ _ _ _ _ _ _ _ _ _ _ _ _ _ _ _ _ _ _ _ _ _ _ _ _ _ _ _ _ _ _ _ rfl HF5.out.1 HF5.out.2 hvbA hk24 hOlt hTlt (by rw [putV_other _ _ (by omega), putV_other _ _ (by omega)]; exact HC1.out _) (by rw [slot_txn]; simp [Dat.inT]) _ ?_
          intro x119 x120 x121 x122 x123 x124 x125 x126 x127 x128 x129 x130 x131 x132 x133 x134 w6 val3 f1 f2
          have HF6 : Hid (Fam w0 w6 D (fun _ => k + 1) (k + 1) val3 lv1) := HLast.out _ _ _ (fun s hs => by
            by_cases e : s = 4 + D.O k
            · rw [e, putV_same]
            · rw [putV_other _ _ e, hs.resolve_right (fun x => e x.2), putV_same]) (fun s hs => by
            rw [putV_other _ _ (fun e => hs (.inr ⟨HW.out, e⟩)), putV_other _ _ (fun e => hs (.inl e))]; exact HC1.out _) f1
          clear f1 f2 HF5
          go_wp2_with fail
          go_roundg (D.N - (k + 1))
          case measure => have := HGK.out; omega
          case rel => exact ⟨k + 1, val3, lv1, by omega, rfl, by go_num, HF6.out⟩
        · have hW' : D.W k = false := by simpa using hW
          have HW : Hid (¬ D.W k = true) := hW
          rw [hW'] at v3
          clear hW hW'
          go_upto_region 17 with fail
          clear v3
          refine reg17 w0 w4 D (putV c1 (D.O k) (k + 1)) k vb val1 lv1 #[.int .u8 (p k : Nat), .int .u8 (q k : Nat), .bool (D.W k)] _ _ _ _ _ _ _ _ _ _ _ _ _ _ _ _ _ _ _ _ _ _ _ _ _ _ _ _ _ _ _ _ _ _ _ _ _ _ _ _ _ _ _ _ _ _ _ _ _ _ _ _ _ _ _ _ _ _ _ _ _ _ _ _ _ _ _ _ _ _ _ _ _ _ _ _ _ _ _ _ _ _ _ _ _ _ _ _ _ _ _ _ _ _ _ _ _ _ _ _ _ _ _ _ _ _ _ _ _ _ _ _ _ _ _ _ _ _ _ _ _ _ _ _ _ _ _ _ _ _ _ _ _ rfl HF4.out.1 HF4.out.2 hvbA hk24 hOlt hTlt (by rw [putV_other _ _ (by omega)]; exact HC1.out _) (by rw [slot_txn]; simp [Dat.inT]) _ ?_
          intro x119 x120 x121 x122 x123 x124 x125 x126 x127 x128 x129 x130 x131 x132 x133 x134 w6 val3 f1 f2
          have HF6 : Hid (Fam w0 w6 D (fun _ => k + 1) (k + 1) val3 lv1) := HLast.out _ _ _ (fun s hs => by rw [hs.resolve_right (fun x => HW.out x.1), putV_same]) (fun s hs => by
            rw [putV_other _ _ (fun e => hs (.inl e))]; exact HC1.out _) f1
          clear f1 f2 HF4
          go_wp2_with fail
          go_roundg (D.N - (k + 1))
          case measure => have := HGK.out; omega
          case rel => exact ⟨k + 1, val3, lv1, by omega, rfl, by go_num, HF6.out⟩
    · obtain rfl : k = D.N := by omega
      go_wp2
      go_ret
      exact ⟨_, rfl, hF.out.acc (fun x hx => by rw [hT x hx]; omega) (fun x hx => by rw [hO x hx]; omega) hn, hF.out.bel⟩
end Go.Proofs.Ybulkxos
