import Derived.Test.YbulkxosRmLn
import Derived.Test.YbulkxosBuild
namespace Go.Proofs.Ybulkxos
open Go.RowKit
set_option linter.unusedVariables false
attribute [local go_sem] eql_ptr neq_ptr eql_nil_ptr plainB_setCell plainB_alloc plainB_drew plainB_drewN

/-- how many of the first k requests are not r -/
def cnt (r k : Nat) : Nat := if k ≤ r then k else k - 1

/-- THE GATHERING LOOP's RELATION -/
structure G1 (w wr : World) (n r c s E k : Nat) : Prop where
  own : wr.ownsRow E 28 1 (.slice (some ⟨E, 0, none⟩) (cnt r k) n) (cnt r k) ((List.range (cnt r k)).map fun j => pt w.heap.size (some (ex r j)))
  ln : ∃ hd tl lc pv nx, Ln wr w.heap.size n s (cvF n c) hd tl lc pv nx ∧ hd = (if 0 < n - 1 then some (ex r 0) else none) ∧ tl = (if 0 < n - 1 then some (ex r (n - 2)) else none) ∧
    lc = (if c < n then (if c = r then (if 0 < r then some (r - 1) else none) else some c) else none) ∧ (∀ j, j < n - 1 → nx (ex r j) = if j + 1 < n - 1 then some (ex r (j + 1)) else none) ∧
    (∀ j, j < n - 1 → pv (ex r j) = if 0 < j then some (ex r (j - 1)) else none) ∧ pv r = none ∧ nx r = none
  bel : Below w.heap.size w wr
  hE : w.heap.size + 1 + n < E

theorem G1.start {w w2 : World} {n r c s : Nat} (hr : r < n) (hn : n ≤ 64) (hB : Below w.heap.size w w2) (hz : w.heap.size + 1 + n < w2.heap.size)
    (hL : Ln w2 w.heap.size n s (cvF n c) (if pv0 r = none then nx0 n r else some 0) (if nx0 n r = none then pv0 r else some (n - 1)) (if lc0 n c = some r then pv0 r else lc0 n c)
      (fun i => if i = r then none else if nx0 n r = some i then pv0 r else pv0 i) (fun i => if i = r then none else if pv0 r = some i then nx0 n r else nx0 n i)) :
    G1 w (w2.alloc (.cells (madeCells #[.pointer none] n) 28)) n r c s w2.heap.size 0 := by
  refine ⟨?_, ⟨_, _, _, _, _, hL.alloc _, un_hd n r hr, un_tl n r hr, un_lc n r c, fun j hj => un_nx n r j hr hj, fun j hj => un_pv n r j hr hj, if_pos rfl, if_pos rfl⟩, hB.alloc (by omega) _, hz⟩
  have := World.ownsRow_made (base := w2.heap.size) (e := 28) (size := 1) w2 (madeCells #[.pointer none] n) n (Nat.le_refl _) (by unfold maxLen; omega) (by rw [size_madeCells]; omega)
  simpa [cnt] using this

theorem cnt_step {r k : Nat} (h : k ≠ r) : cnt r (k + 1) = cnt r k + 1 ∧ ex r (cnt r k) = k := by
  unfold cnt ex
  by_cases h1 : k ≤ r
  · rw [if_pos h1, if_pos (by omega), if_pos (by omega)]; exact ⟨rfl, rfl⟩
  · rw [if_neg h1, if_neg (by omega), if_neg (by omega)]; omega
theorem cnt_skip (r : Nat) : cnt r (r + 1) = cnt r r := by unfold cnt; simp

theorem G1.step {w wr w' : World} {n r c s E k : Nat} (h : G1 w wr n r c s E k) (hk : k ≠ r) (o : Obj)
    (hown : w'.ownsRow E 28 1 (.slice (some ⟨E, 0, none⟩) (cnt r k + 1) n) (cnt r k + 1) (((List.range (cnt r k)).map fun j => pt w.heap.size (some (ex r j))) ++ [pt w.heap.size (some k)]))
    (hg : (wr.alloc o).grownBy w' (some E)) : G1 w w' n r c s E (k + 1) := by
  obtain ⟨h1, h2⟩ := cnt_step hk
  have hE := h.hE
  have hlt := (h.own.lt E rfl).2
  refine ⟨?_, ?_, (h.bel.alloc (by omega) o).grown hg (by simp; omega) (fun x hx => by cases hx; omega), hE⟩
  · rw [h1, List.range_succ, List.map_append, List.map_singleton, h2]
    exact hown
  · obtain ⟨hd, tl, lc, pv, nx, hL, rest⟩ := h.ln
    exact ⟨hd, tl, lc, pv, nx, (hL.alloc o).of_blocks (fun b hb1 hb2 => hg.block b (by simp; omega) (fun e => by cases e; omega)), rest⟩

theorem G1.skip {w wr : World} {n r c s E : Nat} (h : G1 w wr n r c s E r) : G1 w wr n r c s E (r + 1) :=
  ⟨by rw [cnt_skip]; exact h.own, h.ln, h.bel, h.hE⟩

theorem nodeF_0_10 (cv : Bool) (p q : Value) : nodeF 0 cv p q 10 = .pointer none := rfl
theorem nodeF_0_11 (cv : Bool) (p q : Value) : nodeF 0 cv p q 11 = .pointer none := rfl
theorem nodeF_1_8 (cv : Bool) (p q : Value) : nodeF 1 cv p q 8 = .pointer none := rfl
theorem nodeF_1_9 (cv : Bool) (p q : Value) : nodeF 1 cv p q 9 = .pointer none := rfl

theorem neq_link (W : World) : (binOp .neq 32 (.agg #[.pointer none, .pointer none]) (.agg #[.pointer none, .pointer none])).run Yba.prog W = .ok (.bool false) W := by kernel_rfl

set_option maxHeartbeats 1000000 in
set_option maxRecDepth 100000 in
theorem unlink_core (a0 a1 a2 a3 : Int) (n r c s : Nat) (w : World) (b0 : 0 ≤ a0) (b0' : a0 ≤ 255) (b1 : 0 ≤ a1) (b1' : a1 ≤ 255) (b2 : 0 ≤ a2) (b2' : a2 ≤ 255) (b3 : 0 ≤ a3) (b3' : a3 ≤ 255)
    (e0 : a0 % 64 + 1 = n) (e1 : a1 % n = r) (e2 : a2 % (n + 1) = c) (e3 : a3 % 2 = s) (hn : 0 < n) (hn64 : n ≤ 64) (hr : r < n) (hc : c ≤ n) (hs : s = 0 ∨ s = 1) :
    Calls Yba.prog 3 #[.int .u8 a0, .int .u8 a1, .int .u8 a2, .int .u8 a3] w fun e w' => e = .returned (.bool true) ∧ Below w.heap.size w w' := by
  have hs1 : s ≤ 1 := by omega
  obtain ⟨i0, hi, hz0, hz1, hz2⟩ := info_parts Yba.info28
  go_enter Yba.func3, Yba.ntmps3
  go_wp2_with fail
  refine (build_any n c s _ hn hn64 hc hs).mono ?_
  rintro e w1 ⟨rfl, hL, hB, hz⟩
  have HB : Hid _ := hB
  have HZ : Hid _ := hz
  clear hB hz
  have hcr := hL.ps.cell hr
  simp only [pt, Option.map_some] at hcr
  go_wp2_with fail
  have hp : ∀ q, pv0 r = some q → q < n ∧ q ≠ r := by intro q hq; simp [pv0] at hq; omega
  have hx : ∀ q, nx0 n r = some q → q < n ∧ q ≠ r := by intro q hq; simp [nx0] at hq; omega
  have hlc : ∀ q, lc0 n c = some q → q < n := by intro q hq; simp [lc0] at hq; omega
  refine (rm_ln hL hs r hr hp hx hlc).mono ?_
  clear hp hx hlc
  rintro e w2 ⟨rfl, hL2, hB2, hz2, _⟩
  have HG := G1.start hr hn64 (HB.out.trans hB2) (by have := HZ.out; omega) hL2
  have HZ2 : Hid (w2.heap.size = w.heap.size + 3 + n) := by have := HZ.out; show _ = _; omega
  clear hB2 hz2 hcr hL hL2 HB HZ
  have hmk : ∀ W : World, (Instr.makeSlice 24 (.int .i64 0) (.int .i64 n)).run Yba.prog W = .ok (.slice (some ⟨W.heap.size, 0, none⟩) 0 n) (W.alloc (.cells (madeCells #[.pointer none] n) 28)) := by
    intro W
    have hr := run_make (P := Yba.prog) W 24 28 i0 (.pointer none) Yba.underlying24 hi hz0 .i64 .i64 0 n (by omega) (by omega) (by rw [hz2]; omega) (by omega)
    simp only [hz1, Nat.mul_one, Int.toNat_natCast] at hr
    exact hr
  go_wp2
  clear hmk
  go_loopw [16, 17] (fun v i wr => ∃ k : Nat, k ≤ n ∧ i = .int .i64 k ∧ v = .slice (some ⟨w2.heap.size, 0, none⟩) (cnt r k) n ∧ G1 w wr n r c s w2.heap.size k) (fun _ i _ => n - (intOf i).toNat)
  case atStart => exact ⟨0, Nat.zero_le _, rfl, rfl, HG⟩
  case round =>
    obtain ⟨k, hk, rfl, rfl, hG⟩ := hrel
    by_cases hlt : k < n
    · obtain ⟨hd, tl, lc, pv, nx, hL, -⟩ := hG.ln
      have hck := hL.ps.cell hlt
      simp only [pt, Option.map_some] at hck
      clear hL
      have hcnt : cnt r k ≤ k := by unfold cnt; split <;> omega
      by_cases hkr : k = r
      · subst hkr
        have hbb : ((k : Int) != (k : Int)) = false := by simp
        go_wp2
        go_roundw
        case rel => exact ⟨k + 1, by omega, by go_num, by rw [cnt_skip], hG.skip⟩
        case measure => simp [intOf]; omega
      · have hbb : ((k : Int) != (r : Int)) = true := by simp; omega
        have hcl : cnt r k + 1 ≤ n := by
          unfold cnt; split <;> omega
        go_wp2_with (at_builtin; refine wpList_append_fits _ rfl (.tmp 64) (.tmp 69) 24 rfl w2.heap.size 28 i0 1 Yba.underlying24 hi hz1 w2.heap.size (cnt r k) n _ rfl (hG.own.alloc _) ⟨wr.heap.size, 0, none⟩ 1 1 [.pointer (some ⟨w.heap.size + 1 + k, 0, none⟩)] rfl rfl (cell_one_new _ _ _) (by intro u hu; simp at hu; subst hu; rfl) hcl ?_; intro w' hown' hgrow')
        go_roundw
        case rel => exact ⟨k + 1, by omega, by go_num, by rw [(cnt_step hkr).1], hG.step hkr _ hown' hgrow'⟩
        case measure => simp [intOf]; omega
    · obtain rfl : n = k := by omega
      have hcn : cnt r n = n - 1 := by unfold cnt; rw [if_neg (by omega)]
      have hexp : ∀ j, j < n - 1 → wr.cell? ⟨w2.heap.size, j, none⟩ = some (.pointer (some ⟨w.heap.size + 1 + ex r j, 0, none⟩)) := by
        intro j hj
        have := hG.own.cellAt j (by omega)
        rw [this]
        simp [hcn, hj, pt]
      obtain ⟨hd, tl, lc, pv, nx, hL, ehd, etl, elc, enx, epv, epr, enr⟩ := hG.ln
      have HB : Hid _ := hG.bel
      have hl0 := hL.line.cell (i := 0) (by omega)
      have hl1 := hL.line.cell (i := 1) (by omega)
      have hl2 := hL.line.cell (i := 2) (by omega)
      simp only [lineF, if_true, show ¬ (1 : Nat) = 0 by omega, show ¬ (2 : Nat) = 0 by omega, show ¬ (2 : Nat) = 1 by omega, if_false] at hl0 hl1 hl2
      rw [ehd] at hl0
      rw [etl] at hl1
      rw [elc] at hl2
      have H2 : Hid (wr.cell? ⟨w.heap.size + 1 + n, 2, none⟩ = some (pt w.heap.size (if c < n then (if c = r then (if 0 < r then some (r - 1) else none) else some c) else none))) := hl2
      have H1 : Hid (wr.cell? ⟨w.heap.size + 1 + n, 1, none⟩ = some (pt w.heap.size (if 0 < n - 1 then some (ex r (n - 2)) else none))) := hl1
      have HL : Hid _ := hL
      have HX : Hid ((∀ j, j < n - 1 → nx (ex r j) = if j + 1 < n - 1 then some (ex r (j + 1)) else none) ∧ (∀ j, j < n - 1 → pv (ex r j) = if 0 < j then some (ex r (j - 1)) else none) ∧ pv r = none ∧ nx r = none) := ⟨enx, epv, epr, enr⟩
      have HE : Hid (∀ j, j < n - 1 → wr.cell? ⟨w2.heap.size, j, none⟩ = some (.pointer (some ⟨w.heap.size + 1 + ex r j, 0, none⟩))) := hexp
      clear hG HG hl1 hl2 hL ehd etl elc enx epv epr enr hexp
      rw [hcn]
      obtain ⟨hp, HP⟩ : ∃ x, x = (if 0 < n - 1 then some (ex r 0) else none) := ⟨_, rfl⟩
      rw [← HP] at hl0
      have HHP : Hid _ := HP
      clear HP
      simp only [pt] at hl0
      go_wp2
      go_loop [18, 19, 20] (fun cu pr i => ∃ k : Nat, k ≤ n - 1 ∧ i = .int .i64 k ∧ cu = pt w.heap.size (if k < n - 1 then some (ex r k) else none) ∧ pr = pt w.heap.size (if 0 < k then some (ex r (k - 1)) else none)) (fun _ _ i => n - (intOf i).toNat)
      case atStart => exact ⟨0, Nat.zero_le _, rfl, by rw [HHP.out]; rfl, rfl⟩
      case round =>
        clear hl0 HHP
        obtain ⟨k, hk, rfl, rfl, rfl⟩ := hrel
        by_cases hlt : k < n - 1
        · rw [if_pos hlt]
          have hxl := ex_lt n r k hr hlt
          have hexk := HE.out k hlt
          have hpl := plainB_of_row (HL.out.node _ hxl)
          have hq8 := (HL.out.node _ hxl).cell (i := 8 + 2 * s) (by omega)
          have hq9 := (HL.out.node _ hxl).cell (i := 9 + 2 * s) (by omega)
          simp only [nodeF, if_true, show ¬ 9 + 2 * s = 8 + 2 * s by omega, if_false] at hq8 hq9
          rw [HX.out.1 k hlt] at hq9
          rw [HX.out.2.1 k hlt] at hq8
          obtain ⟨nk, HN⟩ : ∃ x, x = (if k + 1 < n - 1 then some (ex r (k + 1)) else none) := ⟨_, rfl⟩
          rw [← HN] at hq9
          have HHN : Hid _ := HN
          clear HN
          by_cases hk0 : 0 < k
          · have hpl' := plainB_of_row (HL.out.node _ (ex_lt n r (k - 1) hr (by omega)))
            simp only [if_pos hk0] at hq8 ⊢
            simp only [pt, Option.map_some] at hq8 hq9 ⊢
            rcases hs with rfl | rfl
            all_goals
              go_wp2
              go_round
              case rel =>
                refine ⟨k + 1, by omega, by go_num, ?_, ?_⟩
                · rw [← HHN.out]
                · rw [if_pos (by omega)]; rfl
              case measure => simp [intOf]; omega
          · simp only [if_neg hk0] at hq8 ⊢
            simp only [pt, Option.map_some, Option.map_none] at hq8 hq9 ⊢
            rcases hs with rfl | rfl
            all_goals
              go_wp2
              go_round
              case rel =>
                refine ⟨k + 1, by omega, by go_num, ?_, ?_⟩
                · rw [← HHN.out]
                · rw [if_pos (by omega)]; rfl
              case measure => simp [intOf]; omega
        · obtain rfl : k = n - 1 := by omega
          rw [if_neg hlt]
          have hl1 := H1.out
          have hlp := plainB_of_row HL.out.line
          rw [show n - 2 = n - 1 - 1 from by omega] at hl1
          have hcr := HL.out.ps.cell hr
          have hr8 := (HL.out.node r hr).cell (i := 8 + 2 * s) (by omega)
          have hr9 := (HL.out.node r hr).cell (i := 9 + 2 * s) (by omega)
          simp only [nodeF, if_true, show ¬ 9 + 2 * s = 8 + 2 * s by omega, if_false, HX.out.2.2.1, HX.out.2.2.2] at hr8 hr9
          have hneq := neq_link
          have hpl' : 0 < n - 1 → plainB wr (w.heap.size + 1 + ex r (n - 1 - 1)) := fun h => plainB_of_row (HL.out.node _ (ex_lt n r (n - 1 - 1) hr (by omega)))
          by_cases hk0 : 0 < n - 1
          · have hpl := hpl' hk0
            simp only [if_pos hk0] at hl1 ⊢
            simp only [pt, Option.map_some, Option.map_none] at hl1 hr8 hr9 hcr ⊢
            rcases hs with rfl | rfl
            all_goals
              go_wp2
              clear hl1 hr8 hr9
              go_loop [21] (fun i => ∃ k : Nat, k ≤ n ∧ i = .int .i64 k) (fun i => n - (intOf i).toNat)
              case atStart => exact ⟨0, Nat.zero_le _, rfl⟩
              case round =>
                obtain ⟨k, hk, rfl⟩ := hrel
                by_cases hlt : k < n
                · have hck := HL.out.ps.cell hlt
                  simp only [pt, Option.map_some] at hck
                  have hx8 := (HL.out.node k hlt).cell (i := 8) (by omega)
                  have hx9 := (HL.out.node k hlt).cell (i := 9) (by omega)
                  have hx10 := (HL.out.node k hlt).cell (i := 10) (by omega)
                  have hx11 := (HL.out.node k hlt).cell (i := 11) (by omega)
                  simp only [nodeF_0_10, nodeF_0_11, nodeF_1_8, nodeF_1_9] at hx8 hx9 hx10 hx11
                  go_wp2
                  go_round
                  case rel => exact ⟨k + 1, by omega, by go_num⟩
                  case measure => simp [intOf]; omega
                · obtain rfl : n = k := by omega
                  have hl2 := H2.out
                  have HBB := HB.out
                  by_cases hcn' : c < n
                  · have hcc := HL.out.ps.cell hcn'
                    have hcp := plainB_of_row (HL.out.node c hcn')
                    by_cases hcr' : c = r
                    · subst hcr'
                      by_cases hr0 : 0 < c
                      · have hcc' := HL.out.ps.cell (i := c - 1) (by omega)
                        have hcp' := plainB_of_row (HL.out.node (c - 1) (by omega))
                        simp only [if_pos hcn', if_true, if_pos hr0, pt, Option.map_some] at hl2 hcc hcc'
                        go_wp2
                        go_ret
                        exact ⟨by simp, HBB⟩
                      · simp only [if_pos hcn', if_true, if_neg hr0, pt, Option.map_some, Option.map_none] at hl2 hcc
                        go_wp2
                        go_ret
                        exact ⟨by simp, HBB⟩
                    · have hbb : ((c : Int) == (r : Int)) = false := by simp; omega
                      simp only [if_pos hcn', if_neg hcr', pt, Option.map_some] at hl2 hcc
                      go_wp2
                      go_ret
                      exact ⟨by simp, HBB⟩
                  · simp only [if_neg hcn', pt, Option.map_none] at hl2
                    go_wp2
                    go_ret
                    exact ⟨by simp, HBB⟩
          · simp only [if_neg hk0] at hl1 ⊢
            simp only [pt, Option.map_some, Option.map_none] at hl1 hr8 hr9 hcr ⊢
            rcases hs with rfl | rfl
            all_goals
              go_wp2
              clear hl1 hr8 hr9
              go_loop [21] (fun i => ∃ k : Nat, k ≤ n ∧ i = .int .i64 k) (fun i => n - (intOf i).toNat)
              case atStart => exact ⟨0, Nat.zero_le _, rfl⟩
              case round =>
                obtain ⟨k, hk, rfl⟩ := hrel
                by_cases hlt : k < n
                · have hck := HL.out.ps.cell hlt
                  simp only [pt, Option.map_some] at hck
                  have hx8 := (HL.out.node k hlt).cell (i := 8) (by omega)
                  have hx9 := (HL.out.node k hlt).cell (i := 9) (by omega)
                  have hx10 := (HL.out.node k hlt).cell (i := 10) (by omega)
                  have hx11 := (HL.out.node k hlt).cell (i := 11) (by omega)
                  simp only [nodeF_0_10, nodeF_0_11, nodeF_1_8, nodeF_1_9] at hx8 hx9 hx10 hx11
                  go_wp2
                  go_round
                  case rel => exact ⟨k + 1, by omega, by go_num⟩
                  case measure => simp [intOf]; omega
                · obtain rfl : n = k := by omega
                  have hl2 := H2.out
                  have HBB := HB.out
                  by_cases hcn' : c < n
                  · have hcc := HL.out.ps.cell hcn'
                    have hcp := plainB_of_row (HL.out.node c hcn')
                    by_cases hcr' : c = r
                    · subst hcr'
                      by_cases hr0 : 0 < c
                      · exfalso; omega
                      · simp only [if_pos hcn', if_true, if_neg hr0, pt, Option.map_some, Option.map_none] at hl2 hcc
                        go_wp2
                        go_ret
                        exact ⟨by simp, HBB⟩
                    · exfalso; omega
                  · simp only [if_neg hcn', pt, Option.map_none] at hl2
                    go_wp2
                    go_ret
                    exact ⟨by simp, HBB⟩
end Go.Proofs.Ybulkxos
