/-
  THE WALK of reachability (11).
-/
import Derived.Test.YbulkxosCEdge
import Derived.Test.YbulkxosCR20
import Derived.Test.YbulkxosCR26
import Derived.Deep.LoopGhost
import Derived.BigQuiet
namespace Go.Proofs.Ybulkxos
open Go.RowKit
set_option linter.unusedVariables false
set_option linter.unusedSimpArgs false

def mix (sc rd : Nat → List Nat) (s : Nat) : List Nat := if s < 8 then sc s else rd (s - 8)
theorem mix_lo {sc rd : Nat → List Nat} {s : Nat} (h : s < 8) : mix sc rd s = sc s := by simp [mix, h]
theorem mix_hi {sc rd : Nat → List Nat} (o : Nat) : mix sc rd (8 + o) = rd o := by simp [mix, show ¬ (8 + o < 8) by omega, show 8 + o - 8 = o by omega]
theorem addL_mix {sc rd : Nat → List Nat} {f t : Nat} (hf : f < 8) (s : Nat) : mix (addE sc f t) rd s = addL (mix sc rd) f t s := by
  unfold addL addE
  by_cases e : f = t
  · simp [e, mix]
  · rw [if_pos e]
    by_cases e2 : s = f
    · subst e2; rw [putV_same, mix_lo hf]; simp [mix, hf, e]
    · rw [putV_other _ _ e2]; unfold mix; simp [e2]
theorem putV_mix {sc rd : Nat → List Nat} {o : Nat} {l : List Nat} (s : Nat) : mix sc (putV rd o l) s = putV (mix sc rd) (8 + o) l s := by
  by_cases e : s = 8 + o
  · subst e; rw [putV_same, mix_hi, putV_same]
  · rw [putV_other _ _ e]
    unfold mix
    by_cases e2 : s < 8
    · rw [if_pos e2, if_pos e2]
    · rw [if_neg e2, if_neg e2, putV_other _ _ (by omega)]

structure R0 (w0 wr : World) (k : Nat) : Prop where
  size : wr.heap.size = w0.heap.size + 3
  bel : Below w0.heap.size w0 wr
  sr : wr.rowIs w0.heap.size 50 8 (fun _ => .slice none 0 0)
  sv : wr.rowIs (w0.heap.size + 1) 55 1 (fun _ => .slice (some ⟨w0.heap.size, 0, none⟩) 8 8)
  lr : wr.rowIs (w0.heap.size + 2) 21 4 (fun o => .int .i32 (if o < k then -1 else 0))

theorem R0.start (w0 : World) : R0 w0 (((w0.alloc (.cells (madeCells #[.slice none 0 0] 8) 50)).alloc (.cells #[.slice (some ⟨w0.heap.size, 0, none⟩) 8 8] 55)).alloc (.cells (madeCells #[.int .i32 0] 4) 21)) 0 := by
  have h1 := World.rowIs_made w0 (.slice none 0 0) 8 50
  have h2 := World.rowIs_alloc (w0.alloc (.cells (madeCells #[.slice none 0 0] 8) 50)) #[.slice (some ⟨w0.heap.size, 0, none⟩) 8 8] 55 (fun _ => .slice (some ⟨w0.heap.size, 0, none⟩) 8 8) (fun j hj => by simp at hj; match j, hj with | 0, _ => rfl)
  have h3 := World.rowIs_made ((w0.alloc (.cells (madeCells #[.slice none 0 0] 8) 50)).alloc (.cells #[.slice (some ⟨w0.heap.size, 0, none⟩) 8 8] 55)) (.int .i32 0) 4 21
  simp only [World.size_alloc] at h2 h3
  exact ⟨by simp, (((Below.refl _ _).alloc (Nat.le_refl _) _).alloc (by simp) _).alloc (by simp; omega) _, (h1.alloc _).alloc _, h2.alloc _, h3.congr (fun j _ => by simp)⟩
theorem R0.step {w0 wr : World} {k : Nat} (h : R0 w0 wr k) : R0 w0 (wr.setCell ⟨w0.heap.size + 2, k, none⟩ (.int .i32 (-1))) (k + 1) := by
  refine ⟨by simp [h.size], h.bel.setCell (by show w0.heap.size ≤ w0.heap.size + 2; omega) _, h.sr.setOther (by show w0.heap.size ≠ w0.heap.size + 2; omega) _, h.sv.setOther (by show w0.heap.size + 1 ≠ w0.heap.size + 2; omega) _, (h.lr.set k _).congr (fun j _ => ?_)⟩
  by_cases e : j = k
  · subst e; simp
  · rw [if_neg e]
    by_cases g : j < k
    · rw [if_pos g, if_pos (by omega)]
    · rw [if_neg g, if_neg (by omega)]
theorem R0.done {w0 wr : World} (h : R0 w0 wr 4) : RS w0 (wr.alloc (.cells (madeCells #[.slice none 0 0] 4) 50)) (fun _ => -1) (mix (fun _ => []) (fun _ => [])) (fun _ => .slice none 0 0) := by
  have h1 := World.rowIs_made wr (.slice none 0 0) 4 50
  rw [h.size] at h1
  have e : ∀ s, mix (fun _ => []) (fun _ => []) s = [] := fun s => by unfold mix; split <;> rfl
  refine ⟨h.bel.alloc (by rw [h.size]; omega) _, by simp [h.size], h.sr.alloc _, h.sv.alloc _, (h.lr.alloc _).congr (fun j hj => by rw [if_pos hj]), h1, fun s hs => ?_, fun s s' g _ _ h => by simp [Value.ownBlock] at h⟩
  rw [e]
  exact World.ownsRow_nil _ _ _ _

set_option maxHeartbeats 4000000 in
set_option maxRecDepth 100000 in
theorem sub_any (w0 : World) (A : Nat) (D : Dat) (M : AccM) (ha : Acc w0 A D M) :
    Calls Yba.prog 11 #[.pointer (some ⟨A, 0, none⟩)] w0 fun e w' => e = .returned (.slice (some ⟨w0.heap.size, 0, none⟩) 8 8) ∧ ∃ sc val lw rd, Sub D sc ∧ RS w0 w' lw (mix sc rd) val := by
  have h50 : (Yba.prog.info? 50).map (fun i => (i.zero, i.size, i.bytes)) = some (some (.slice none 0 0), 1, 24) := by kernel_rfl
  have hmk8 : ∀ W : World, (Instr.makeSlice 55 (.int .i64 8) (.int .i64 8)).run Yba.prog W = .ok (.slice (some ⟨W.heap.size, 0, none⟩) 8 8) (W.alloc (.cells (madeCells #[.slice none 0 0] 8) 50)) :=
    run_make_row' (P := Yba.prog) 55 50 (.slice none 0 0) 24 Yba.underlying55 h50 rfl .i64 .i64 8 (by omega) (by omega)
  have hmk4 : ∀ W : World, (Instr.makeSlice 55 (.int .i64 4) (.int .i64 4)).run Yba.prog W = .ok (.slice (some ⟨W.heap.size, 0, none⟩) 4 4) (W.alloc (.cells (madeCells #[.slice none 0 0] 4) 50)) :=
    run_make_row' (P := Yba.prog) 55 50 (.slice none 0 0) 24 Yba.underlying55 h50 rfl .i64 .i64 4 (by omega) (by omega)
  have hmkl : ∀ W : World, (Instr.makeSlice 50 (.int .i64 4) (.int .i64 4)).run Yba.prog W = .ok (.slice (some ⟨W.heap.size, 0, none⟩) 4 4) (W.alloc (.cells (madeCells #[.int .i32 0] 4) 21)) :=
    run_make_row' (P := Yba.prog) 50 21 (.int .i32 0) 4 Yba.underlying50 Yba.info21 rfl .i64 .i64 4 (by omega) (by omega)
  clear h50
  have c0 := ha.row.cell (i := 0) (by omega)
  have c1 := ha.row.cell (i := 1) (by omega)
  have c3 := ha.row.cell (i := 3) (by omega)
  simp only [accF, show ¬ (1 : Nat) = 0 by omega, show ¬ (3 : Nat) = 0 by omega, show ¬ (3 : Nat) = 1 by omega, show ¬ (3 : Nat) = 2 by omega, if_true, if_false] at c0 c1 c3
  have ne0 := World.new_ne w0 _ c0
  have hA := ha.row.lt
  go_enter Yba.func11, Yba.ntmps11
  go_upto_region 5 with fail
  rw [show w0.heap.size + 1 + 1 = w0.heap.size + 2 by omega]
  clear hmk8 hmkl c1 c3 ne0
  have HS : Hid (R0 w0 (((w0.alloc (.cells (madeCells #[.slice none 0 0] 8) 50)).alloc (.cells #[.slice (some ⟨w0.heap.size, 0, none⟩) 8 8] 55)).alloc (.cells (madeCells #[.int .i32 0] 4) 21)) 0) := R0.start w0
  generalize (((w0.alloc (.cells (madeCells #[.slice none 0 0] 8) 50)).alloc (.cells #[.slice (some ⟨w0.heap.size, 0, none⟩) 8 8] 55)).alloc (.cells (madeCells #[.int .i32 0] 4) 21)) = w1 at HS ⊢
  go_wp2_with fail
  go_loopg [32] 4 (fun gg x wr => ∃ v : Nat, v ≤ 4 ∧ gg = 4 - v ∧ x = .int .i64 v ∧ Hid (R0 w0 wr v))
  case atStart => exact ⟨0, by omega, by omega, rfl, HS.out⟩
  case round =>
    clear HS
    obtain ⟨G, hGG⟩ : ∃ G, G = gk := ⟨_, rfl⟩
    subst hGG
    obtain ⟨v, hv, hgk, rfl, hR⟩ := hrel
    have HG : Hid (G = 4 - v) := hgk
    clear hgk
    by_cases hv4 : v < 4
    · have z1 := hR.out.lr.cell hv4
      have z2 := hR.out.lr.frozen v
      have hvI : (v : Int) < 4 := by omega
      go_wp2_with fail
      go_roundg (4 - (v + 1))
      case measure => have := HG.out; omega
      case rel => exact ⟨v + 1, by omega, rfl, by go_num, hR.out.step⟩
    · obtain rfl : v = 4 := by omega
      have hRS := hR.out.done
      have c0' := (hR.out.bel.cell (World.block_lt_of_cell? _ _ c0)).trans c0
      have hz := hR.out.size
      have hA' : A < wr.heap.size := by omega
      have c0'' : (wr.alloc (.cells (madeCells #[.slice none 0 0] 4) 50)).cell? ⟨A, 0, none⟩ = some (.slice M.la D.N M.lc) := (World.cell?_alloc_lt _ _ _ hA').trans c0'
      generalize hla : M.la = la at c0''
      go_upto_region 11 with fail
      have HRS : Hid (RS w0 (wr.alloc (.cells (madeCells #[.slice none 0 0] 4) 50)) (fun _ => -1) (mix (fun _ => []) (fun _ => [])) (fun _ => .slice none 0 0)) := hRS
      generalize wr.alloc (.cells (madeCells #[.slice none 0 0] 4) 50) = w2 at HRS c0'' ⊢
      clear hRS c0 c0' hz hA' hR hmk4 hA
      go_wp2_with fail
      clear c0''
      go_loopg [46] D.N (fun gg x wr => ∃ (k : Nat) (lw : Nat → Int) (rd sc : Nat → List Nat) (val : Nat → Value), k ≤ D.N ∧ gg = D.N - k ∧ x = .int .i64 k ∧ Hid (RInv D k lw rd sc ∧ RS w0 wr lw (mix sc rd) val))
      case atStart => exact ⟨0, _, _, _, _, by omega, by omega, rfl, RInv.start D, HRS.out⟩
      case round =>
        clear HRS
        obtain ⟨G2, hGG⟩ : ∃ G2, G2 = gk := ⟨_, rfl⟩
        subst hGG
        obtain ⟨k, lw, rd, sc, val, hk, hgk, rfl, hH⟩ := hrel
        have HG2 : Hid (G2 = D.N - k) := hgk
        clear hgk
        by_cases hlt : k < D.N
        · have hAr := ha.below hH.out.2.bel
          obtain ⟨l0, l1, l2, l3, l4, l5⟩ := hAr.list k hlt
          rw [hla] at l0
          subst l0
          have hTk := hAr.tlt k hlt
          have hOk := hAr.olt k hlt
          have hkI : (k : Int) < (D.N : Int) := by omega
          have hle := ha.nle
          clear hAr
          go_upto_region 14 with fail
          have hR1 := hH.out.2.alloc (.cells #[.int .i32 (D.T k : Nat), .int .i32 (D.O k : Nat), .bool (D.W k), .int .i32 (D.plc 0 k : Nat), .int .i32 (D.plc 1 k : Nat)] 60)
          have HI : Hid (RInv D k lw rd sc) := hH.out.1
          have HX : Hid ((wr.alloc (.cells #[.int .i32 (D.T k : Nat), .int .i32 (D.O k : Nat), .bool (D.W k), .int .i32 (D.plc 0 k : Nat), .int .i32 (D.plc 1 k : Nat)] 60)).heap[wr.heap.size]? = some (.cells #[.int .i32 (D.T k : Nat), .int .i32 (D.O k : Nat), .bool (D.W k), .int .i32 (D.plc 0 k : Nat), .int .i32 (D.plc 1 k : Nat)] 60 (0, 0))) := heap_alloc_new _ _
          have hxb : w0.heap.size + 4 ≤ wr.heap.size := hH.out.2.size
          generalize wr.alloc (.cells #[.int .i32 (D.T k : Nat), .int .i32 (D.O k : Nat), .bool (D.W k), .int .i32 (D.plc 0 k : Nat), .int .i32 (D.plc 1 k : Nat)] 60) = w3 at hR1 HX ⊢
          clear hH l1 l2 l3 l4 l5
          generalize wr.heap.size = xb at HX hxb ⊢
          obtain ⟨cs, hcs⟩ : ∃ cs : Array Value, cs = #[.int .i32 (D.T k : Nat), .int .i32 (D.O k : Nat), .bool (D.W k), .int .i32 (D.plc 0 k : Nat), .int .i32 (D.plc 1 k : Nat)] := ⟨_, rfl⟩
          rw [← hcs] at HX
          have x0 : cs[0]? = some (.int .i32 (D.T k : Nat)) := by rw [hcs]; rfl
          have x1 : cs[1]? = some (.int .i32 (D.O k : Nat)) := by rw [hcs]; rfl
          have x2 : cs[2]? = some (.bool (D.W k)) := by rw [hcs]; rfl
          have XC : Hid (∀ w' : World, w'.heap[xb]? = some (.cells cs 60 (0, 0)) → w'.cell? ⟨xb, 0, none⟩ = some (.int .i32 (D.T k : Nat)) ∧ w'.cell? ⟨xb, 1, none⟩ = some (.int .i32 (D.O k : Nat)) ∧ w'.cell? ⟨xb, 2, none⟩ = some (.bool (D.W k))) := fun w' h => ⟨by simp [World.cell?, h, x0], by simp [World.cell?, h, x1], by simp [World.cell?, h, x2]⟩
          have XS : Hid (cs[0]? = some (.int .i32 (D.T k : Nat)) ∧ cs[1]? = some (.int .i32 (D.O k : Nat))) := ⟨x0, x1⟩
          clear hcs x0 x1 x2
          obtain ⟨x0, x1, x2⟩ := XC.out w3 HX.out
          have HR1 : Hid (RS w0 w3 lw (mix sc rd) val) := hR1
          have hOI : (D.O k : Int) < 4 := by omega
          have y1 := hR1.lr.cell hOk
          obtain ⟨l, hl⟩ : ∃ l, l = lw (D.O k) := ⟨_, rfl⟩
          rw [← hl] at y1
          have HL : Hid (l = lw (D.O k)) := hl
          clear hR1 hl
          go_upto_if 56 with fail
          clear y1
          go_cut [] from 47 to 117 (fun wx => ∃ val', Hid (RS w0 wx lw (mix (sc1 lw sc (D.O k) (D.T k)) rd) val' ∧ wx.heap[xb]? = some (.cells cs 60 (0, 0))))
          case first =>
            by_cases h0 : 0 ≤ l
            · obtain ⟨i, hi, e⟩ : ∃ i, i < k ∧ l = (D.T i : Nat) := by
                rcases HI.out.lwok (D.O k) with e | ⟨i, hi, _, _, e⟩
                · have := HL.out; omega
                · exact ⟨i, hi, by rw [HL.out, e]⟩
              have hf := ha.tlt i (by omega)
              subst e
              have HSC : Hid (∀ s, mix (sc1 lw sc (D.O k) (D.T k)) rd s = addL (mix sc rd) (D.T i) (D.T k) s) := fun s => by
                rw [← addL_mix hf]; unfold sc1; rw [if_pos (by rw [← HL.out]; omega), ← HL.out]; simp
              have hlen : (mix sc rd (D.T i)).length ≤ 3000000 := by
                have h1 := HI.out.slen (D.T i)
                have h2 := ha.nle
                rw [mix_lo hf]
                have : k * 1025 ≤ 1024 * 1025 := Nat.mul_le_mul_right _ (by omega)
                omega
              go_wp2_with fail
              refine (edge_any w0 w3 lw (mix sc rd) val (D.T i) (D.T k) xb cs HR1.out HX.out hxb hf hTk hlen).mono ?_
              rintro e w4 ⟨rfl, ⟨val', hR', _⟩, hX'⟩
              have HE : Hid (RS w0 w4 lw (mix (sc1 lw sc (D.O k) (D.T k)) rd) val' ∧ w4.heap[xb]? = some (.cells cs 60 (0, 0))) := ⟨hR'.congr (fun _ _ => rfl) (fun s _ => HSC.out s), hX'⟩
              clear hR' hX'
              go_wp2_with fail
              go_meet
              exact ⟨val', HE.out⟩
            · have HE : Hid (RS w0 w3 lw (mix (sc1 lw sc (D.O k) (D.T k)) rd) val ∧ w3.heap[xb]? = some (.cells cs 60 (0, 0))) := ⟨by
                unfold sc1; rw [if_neg (by rw [← HL.out]; exact h0)]; exact HR1.out, HX.out⟩
              go_wp2_with fail
              go_meet
              exact ⟨val, HE.out⟩
          case rest =>
            obtain ⟨val1, hR2⟩ := hcut
            clear x0 x1 x2 HR1 HX
            obtain ⟨x0, x1, x2⟩ := XC.out wc hR2.out.2
            obtain ⟨e0, e1⟩ := own_form (hR2.out.1.own (8 + D.O k) (by omega))
            rw [mix_hi] at e0 e1
            obtain ⟨n, hn⟩ : ∃ n, n = (rd (D.O k)).length := ⟨_, rfl⟩
            rw [← hn] at e0 e1
            have HN : Hid (n = (rd (D.O k)).length) := hn
            have y1 := hR2.out.1.rr.cell hOk
            rw [e0] at y1
            have HV : Hid (val1 (8 + D.O k) = .slice (sAddr (val1 (8 + D.O k))) n (sCap (val1 (8 + D.O k)))) := e0
            have HC : Hid (0 < n → sAddr (val1 (8 + D.O k)) = some ⟨sBlk (val1 (8 + D.O k)), 0, none⟩ ∧ ∀ j u, (ints (rd (D.O k)))[j]? = some u → wc.cell? ⟨sBlk (val1 (8 + D.O k)), j, none⟩ = some u) := e1
            clear e0 e1
            generalize sAddr (val1 (8 + D.O k)) = a0 at y1 HV HC
            generalize sCap (val1 (8 + D.O k)) = q0 at y1 HV
            generalize sBlk (val1 (8 + D.O k)) = rb at HC
            have hnl : n ≤ 1024 := by
              have h1 := HI.out.rlen (D.O k)
              have h2 := ha.nle
              omega
            clear hn
            by_cases hW : D.W k = true
            · have HW : Hid (D.W k = true) := hW
              rw [hW] at x2
              clear hW
              go_upto_region 21 with fail
              clear y1 x0 x1 x2 HC
              go_wp2_with fail
              go_loopg [95] n (fun gg x wr => ∃ (p : Nat) (val2 : Nat → Value), p ≤ n ∧ gg = n - p ∧ x = .int .i64 p ∧ Hid (RS w0 wr lw (mix (addAll (sc1 lw sc (D.O k) (D.T k)) ((rd (D.O k)).take p) (D.T k)) rd) val2 ∧ val2 (8 + D.O k) = .slice a0 n q0 ∧ wr.heap[xb]? = some (.cells cs 60 (0, 0))))
              case atStart => exact ⟨0, val1, by omega, by omega, rfl, hR2.out.1, HV.out, hR2.out.2⟩
              case round =>
                clear hR2 HV
                obtain ⟨G3, hGG⟩ : ∃ G3, G3 = gk := ⟨_, rfl⟩
                subst hGG
                obtain ⟨p, val2, hp, hgk, rfl, hR3⟩ := hrel
                have HG3 : Hid (G3 = n - p) := hgk
                clear hgk
                by_cases hpn : p < n
                · obtain ⟨f, hf⟩ : ∃ f, (rd (D.O k))[p]? = some f := ⟨(rd (D.O k))[p]'(by have := HN.out; omega), by simp⟩
                  have hf8 : f < 8 := by
                    obtain ⟨i, hi, _, rfl⟩ := HI.out.rdok (D.O k) f (List.mem_of_getElem? hf)
                    exact ha.tlt i (by omega)
                  obtain ⟨e0, e1⟩ := own_form (hR3.out.1.own (8 + D.O k) (by omega))
                  rw [mix_hi, ← HN.out] at e1
                  obtain ⟨c1, c2⟩ := e1 (by omega)
                  rw [hR3.out.2.1] at c1 c2
                  have c3 := c2 p (.int .i32 (f : Nat)) (by simp [ints, hf])
                  have c1' : a0 = some ⟨sBlk (.slice a0 n q0), 0, none⟩ := c1
                  generalize sBlk (.slice a0 n q0) = rb2 at c1' c3
                  clear e0 e1 c1 c2
                  subst c1'
                  obtain ⟨x0, x1, x2⟩ := XC.out wr hR3.out.2.2
                  have hpI : (p : Int) < (n : Int) := by omega
                  have hlen : (mix (addAll (sc1 lw sc (D.O k) (D.T k)) ((rd (D.O k)).take p) (D.T k)) rd f).length ≤ 3000000 := by
                    rw [mix_lo hf8]
                    have h1 := len_addAll ((rd (D.O k)).take p) (D.T k) f (sc1 lw sc (D.O k) (D.T k))
                    have h2 := len_sc1 lw sc (D.O k) (D.T k) f
                    have h3 := HI.out.slen f
                    have h4 : ((rd (D.O k)).take p).length ≤ 1024 := by rw [List.length_take]; omega
                    have : k * 1025 ≤ 1024 * 1025 := Nat.mul_le_mul_right _ (by omega)
                    omega
                  have HSC : Hid (∀ s, mix (addAll (sc1 lw sc (D.O k) (D.T k)) ((rd (D.O k)).take (p + 1)) (D.T k)) rd s = addL (mix (addAll (sc1 lw sc (D.O k) (D.T k)) ((rd (D.O k)).take p) (D.T k)) rd) f (D.T k) s) := fun s => by
                    rw [← addL_mix hf8, addAll_take _ _ _ _ (by have := HN.out; omega), show (rd (D.O k)).getD p 0 = f by simp [List.getD_eq_getElem?_getD, hf]]
                  clear hf
                  go_wp2_with fail
                  refine (edge_any w0 wr lw _ val2 f (D.T k) xb cs hR3.out.1 hR3.out.2.2 hxb hf8 hTk hlen).mono ?_
                  rintro e w5 ⟨rfl, ⟨val3, hR', hv3⟩, hX'⟩
                  have HE : Hid (RS w0 w5 lw (mix (addAll (sc1 lw sc (D.O k) (D.T k)) ((rd (D.O k)).take (p + 1)) (D.T k)) rd) val3 ∧ val3 (8 + D.O k) = .slice (some ⟨rb2, 0, none⟩) n q0 ∧ w5.heap[xb]? = some (.cells cs 60 (0, 0))) := ⟨hR'.congr (fun _ _ => rfl) (fun s _ => HSC.out s), by rw [hv3 _ (by omega)]; exact hR3.out.2.1, hX'⟩
                  clear hR' hX' hv3 HSC hR3 x0 x1 x2 c3
                  go_wp2_with fail
                  go_roundg (n - (p + 1))
                  case measure => have := HG3.out; omega
                  case rel => exact ⟨p + 1, val3, by omega, rfl, by go_num, HE.out⟩
                · have HE : Hid (RS w0 wr lw (mix (addAll (sc1 lw sc (D.O k) (D.T k)) (rd (D.O k)) (D.T k)) rd) val2 ∧ val2 (8 + D.O k) = .slice a0 n q0 ∧ wr.heap[xb]? = some (.cells cs 60 (0, 0))) := by
                    have h1 := hR3.out
                    rw [List.take_of_length_le (by have := HN.out; omega)] at h1
                    exact h1
                  clear hR3
                  go_upto_region 26 with fail
                  refine reg26 w0 wr lw (mix (addAll (sc1 lw sc (D.O k) (D.T k)) (rd (D.O k)) (D.T k)) rd) val2 (D.O k) (D.T k) xb n q0 a0 cs _ _ _ _ _ _ _ _ _ _ _ _ _ _ _ _ _ _ _ _ _ _ _ _ _ _ _ _ _ _ _ _ _ _ _ _ _ _ _ _ _ _ _ _ _ _ _ _ _ _ _ _ _ _ _ _ _ _ _ _ _ _ _ _ _ _ _ _ _ _ _ _ _ _ _ _ _ _ _ _ _ _ _ _ _ _ _ _ _ _ _ _ _ _ _ _ _ _ _ _ _ _ _ _ _ _ _ _ _ _ _ _ _ _ _ _ rfl HE.out.1 HE.out.2.2 hxb XS.out.1 XS.out.2 hOk hnl HE.out.2.1 _ ?_
                  intro x105 x106 x107 x108 x109 x110 x111 x112 x113 x114 x115 x116 w5 val3 f1
                  have HF : Hid (RInv D (k + 1) (putV lw (D.O k) (D.T k : Nat)) (putV rd (D.O k) []) (addAll (sc1 lw sc (D.O k) (D.T k)) (rd (D.O k)) (D.T k)) ∧ RS w0 w5 (putV lw (D.O k) (D.T k : Nat)) (mix (addAll (sc1 lw sc (D.O k) (D.T k)) (rd (D.O k)) (D.T k)) (putV rd (D.O k) [])) val3) := ⟨HI.out.stepW hlt ha.nle HW.out _ _ (fun o ho => putV_other _ _ ho) (putV_same _ _ _) (fun o ho => putV_other _ _ ho) (putV_same _ _ _), f1.congr (fun _ _ => rfl) (fun s _ => by rw [putV_mix])⟩
                  clear f1 HE
                  go_wp2_with fail
                  go_roundg (D.N - (k + 1))
                  case measure => have := HG2.out; omega
                  case rel => exact ⟨k + 1, _, _, _, _, by omega, rfl, by go_num, HF.out⟩
            · have HW : Hid (D.W k = false) := (by simpa using hW : D.W k = false)
              rw [HW.out] at x2
              clear hW
              go_upto_region 19 with fail
              by_cases hsk : (rd (D.O k)).getLast? = some (D.T k)
              · have hn0 : 0 < n := by
                  have h1 := HN.out
                  cases hh : rd (D.O k) with
                  | nil => rw [hh] at hsk; cases hsk
                  | cons a b => rw [hh] at h1; simp at h1; omega
                obtain ⟨c1, c2⟩ := HC.out hn0
                subst c1
                obtain ⟨m, rfl⟩ : ∃ m, n = m + 1 := ⟨n - 1, by omega⟩
                have hla : (rd (D.O k))[m]? = some (D.T k) := by
                  rw [List.getLast?_eq_getElem?, ← HN.out] at hsk; simpa using hsk
                have c3 : wc.cell? ⟨rb, m, none⟩ = some (.int .i32 (D.T k : Nat)) := c2 _ _ (by simp [ints, hla])
                have HMem : Hid (D.T k ∈ rd (D.O k)) := List.mem_of_getElem? hla
                have b1 : (((m + 1 : Nat) : Int) == 0) = false := by simp; omega
                have b2 : ((m : Int) + 1 == 0) = false := by simp; omega
                have b3 : ((D.T k : Int) != (D.T k : Int)) = false := by simp
                clear hsk c2 hla HC
                go_quiet (fail)
                have HF : Hid (RInv D (k + 1) lw rd (sc1 lw sc (D.O k) (D.T k)) ∧ RS w0 (wc.drewN nq) lw (mix (sc1 lw sc (D.O k) (D.T k)) rd) val1) := ⟨HI.out.stepR hlt ha.nle HW.out rd (fun o ho => rfl) (.inl ⟨rfl, HMem.out⟩), hR2.out.1.drewN nq⟩
                clear c3 x0 x1 x2 y1 b1 b2 b3 hR2
                go_wp2_with fail
                go_roundg (D.N - (k + 1))
                case measure => have := HG2.out; omega
                case rel => exact ⟨k + 1, _, _, _, _, by omega, rfl, by go_num, HF.out⟩
              · go_cut [83] from 47 to 117 (fun s wx => s = .bool true ∧ ∃ n, wx = wc.drewN n)
                case first =>
                  by_cases hn0 : 0 < n
                  · obtain ⟨c1, c2⟩ := HC.out hn0
                    subst c1
                    obtain ⟨m, rfl⟩ : ∃ m, n = m + 1 := ⟨n - 1, by omega⟩
                    obtain ⟨la, hla⟩ : ∃ la, (rd (D.O k))[m]? = some la := ⟨(rd (D.O k))[m]'(by have := HN.out; omega), by simp⟩
                    have hne : la ≠ D.T k := fun e => hsk (by rw [List.getLast?_eq_getElem?, ← HN.out]; simp [hla, e])
                    have c3 : wc.cell? ⟨rb, m, none⟩ = some (.int .i32 (la : Nat)) := c2 _ _ (by simp [ints, hla])
                    have b1 : (((m + 1 : Nat) : Int) == 0) = false := by simp; omega
                    have b2 : ((m : Int) + 1 == 0) = false := by simp; omega
                    have b3 : ((la : Int) != (D.T k : Int)) = true := by simp; omega
                    clear hsk hne c2
                    go_quiet (fail)
                    clear c3 x0 x1 x2 y1 b1 b2 b3
                    go_wp2_with fail
                    go_meet
                    exact ⟨rfl, _, rfl⟩
                  · obtain rfl : n = 0 := by omega
                    go_quiet (fail)
                    clear x0 x1 x2 y1 hsk
                    go_wp2_with fail
                    go_meet
                    exact ⟨rfl, _, rfl⟩
                case rest =>
                  obtain ⟨rfl, nd, hwd⟩ := hcut
                  have HR3 : Hid (RS w0 wc lw (mix (sc1 lw sc (D.O k) (D.T k)) rd) val1 ∧ wc.heap[xb]? = some (.cells cs 60 (0, 0))) := by
                    rw [hwd]; exact ⟨hR2.out.1.drewN nd, hR2.out.2⟩
                  have HN2 : Hid (n = (mix (sc1 lw sc (D.O k) (D.T k)) rd (8 + D.O k)).length) := by
                    have h1 : n = (mix (sc1 lw sc (D.O k) (D.T k)) rd (8 + D.O k)).length := by rw [mix_hi]; exact HN.out
                    exact h1
                  clear hwd hR2 x0 x1 x2 y1 hsk HC
                  go_upto_region 20 with fail
                  refine reg20 w0 wc lw (mix (sc1 lw sc (D.O k) (D.T k)) rd) val1 (D.O k) (D.T k) xb n q0 a0 cs _ _ _ _ _ _ _ _ _ _ _ _ _ _ _ _ _ _ _ _ _ _ _ _ _ _ _ _ _ _ _ _ _ _ _ _ _ _ _ _ _ _ _ _ _ _ _ _ _ _ _ _ _ _ _ _ _ _ _ _ _ _ _ _ _ _ _ _ _ _ _ _ _ _ _ _ _ _ _ _ _ _ _ _ _ _ _ _ _ _ _ _ _ _ _ _ _ _ _ _ _ _ _ _ _ _ _ _ _ _ _ _ _ _ _ _ _ rfl HR3.out.1 HR3.out.2 hxb XS.out.1 XS.out.2 hOk HN2.out hnl HV.out _ ?_
                  intro x84 x85 x86 x87 x88 x89 x90 x91 x92 w5 val2 f1
                  have HF : Hid (RInv D (k + 1) lw (putV rd (D.O k) (rd (D.O k) ++ [D.T k])) (sc1 lw sc (D.O k) (D.T k)) ∧ RS w0 w5 lw (mix (sc1 lw sc (D.O k) (D.T k)) (putV rd (D.O k) (rd (D.O k) ++ [D.T k]))) val2) := ⟨HI.out.stepR hlt ha.nle HW.out _ (fun o ho => putV_other _ _ ho) (.inr (putV_same _ _ _)), f1.congr (fun _ _ => rfl) (fun s _ => by rw [putV_mix, mix_hi])⟩
                  clear f1 HR3
                  go_wp2_with fail
                  go_roundg (D.N - (k + 1))
                  case measure => have := HG2.out; omega
                  case rel => exact ⟨k + 1, _, _, _, _, by omega, rfl, by go_num, HF.out⟩
        · have HE : Hid (∃ sc val lw rd, Sub D sc ∧ RS w0 wr lw (mix sc rd) val) := by
            obtain rfl : k = D.N := by omega
            exact ⟨sc, val, lw, rd, hH.out.1.done ha.nle, hH.out.2⟩
          have y1 := hH.out.2.sv.cell (i := 0) (by omega)
          clear hH
          go_wp2_with fail
          go_ret
          exact ⟨rfl, HE.out⟩
end Go.Proofs.Ybulkxos
