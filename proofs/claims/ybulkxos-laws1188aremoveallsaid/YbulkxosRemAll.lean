import Derived.Test.YbulkxosRmLn
import Derived.Test.YbulkxosBuild
import Derived.Test.YbulkxosChain
import Derived.Deep.RegionLaw
import Derived.Deep.LoopGhost
import Derived.Deep.DeepCutAuto
import Derived.Laws.CopyOwn
import Derived.Lib.LazyBuf
namespace Go.Proofs.Ybulkxos
open Go.RowKit
set_option linter.unusedVariables false

/-- THE LOOP's RELATION: m requests are left -/
structure R1 (w wr : World) (n c s L m : Nat) : Prop where
  ln : ∃ f hd tl lc pv nx g, Chain n m f hd tl lc pv nx ∧ Ln wr w.heap.size n s (cvF n c) hd tl lc pv nx ∧ wr.rowIs L 28 n g ∧ ∀ j, j < m → g j = pt w.heap.size (some (f j))
  bel : Below w.heap.size w wr
  hL : w.heap.size + 1 + n < L

/-- the cells of 'ps' -/
def psCells (B n : Nat) : List Value := (List.range n).map fun i => pt B (some i)

theorem psCells_get (B n j : Nat) (u : Value) (h : (psCells B n)[j]? = some u) : j < n ∧ u = pt B (some j) := by
  by_cases hj : j < n
  · refine ⟨hj, ?_⟩
    simp [psCells, hj] at h
    exact h.symm
  · simp [psCells, hj] at h

/-- 'copy(left, ps)' -/
theorem R1.start {w w1 : World} {n c s : Nat} (hn : 0 < n) (hB : Below w.heap.size w w1) (hz : w.heap.size + 1 + n < w1.heap.size)
    (hL : Ln w1 w.heap.size n s (cvF n c) (some 0) (some (n - 1)) (lc0 n c) pv0 (nx0 n)) :
    ∃ W0, (Builtin.copy_ #[24, 24] 3 #[.slice (some ⟨w1.heap.size, 0, none⟩) n n, .slice (some ⟨w.heap.size, 0, none⟩) n n]).run Yba.prog (w1.alloc (.cells (madeCells #[.pointer none] n) 28)) = .ok (goInt n) W0 ∧
      R1 w W0 n c s w1.heap.size n := by
  have hlen : (psCells w.heap.size n).length = n := by simp [psCells]
  have hcopy := run_copy_row (P := Yba.prog) (w1.alloc (.cells (madeCells #[.pointer none] n) 28)) 24 24 3 28 w1.heap.size 0 n n ⟨w.heap.size, 0, none⟩ n n (madeCells #[.pointer none] n) 28 (psCells w.heap.size n) Yba.underlying24 (by kernel_rfl) (Deep.blk_alloc_new _ _)
    (by rw [hlen]; exact (Nat.min_self n).symm)
    (fun j v hv => by
      obtain ⟨h1, rfl⟩ := psCells_get _ _ _ _ hv
      rw [Addr.add_lit, Nat.zero_add]
      exact (hL.ps.alloc _).cell h1)
    (by rw [hlen, size_madeCells]; omega) (by intro v hv; simp [psCells] at hv; obtain ⟨x, _, rfl⟩ := hv; rfl)
  rw [hlen] at hcopy
  refine ⟨_, hcopy, ?_⟩
  have e : ((madeCells #[Value.pointer none] n).toList.take 0 ++ psCells w.heap.size n ++ (madeCells #[.pointer none] n).toList.drop (0 + n)) = psCells w.heap.size n := by
    rw [toList_madeCells_one]
    simp
  rw [e]
  refine ⟨⟨_, _, _, _, _, _, fun i => pt w.heap.size (some i), chain0 n c hn, ?_, ?_, fun j _ => rfl⟩, below_setRow (hB.alloc (by omega) _) (by omega) _, hz⟩
  · exact (hL.alloc _).of_blocks (fun b h1 h2 => setRow_other _ _ _ _ (by omega))
  · exact ⟨_, setRow_heap _ _ _ _ _ _ (Deep.blk_alloc_new _ _), by simp [psCells], fun i hi => by simp [psCells, hi]⟩

/-- the cells that 'append(left[:i], left[i+1:]...)' moves one to the left -/
def movedG (g : Nat → Value) (i m : Nat) : List Value := (List.range (m - (i + 1))).map fun j => g (i + 1 + j)
theorem movedG_length (g : Nat → Value) (i m : Nat) : (movedG g i m).length = m - (i + 1) := by simp [movedG]
theorem movedG_get (g : Nat → Value) (i m j : Nat) (h : j < m - (i + 1)) : (movedG g i m)[j]? = some (g (i + 1 + j)) := by simp [movedG, h]

theorem R1.step {w w2 : World} {n c s L m i : Nat} {f : Nat → Nat} {hd' tl' lc' : Option Nat} {pv' nx' : Nat → Option Nat} {g : Nat → Value}
    (hC : Chain n (m - 1) (cut f i) hd' tl' lc' pv' nx') (hL2 : Ln w2 w.heap.size n s (cvF n c) hd' tl' lc' pv' nx') (hrow : w2.rowIs L 28 n g) (hg : ∀ j, j < m → g j = pt w.heap.size (some (f j)))
    (hB : Below w.heap.size w w2) (hl : w.heap.size + 1 + n < L) (hi : i < m) (hm : m ≤ n) :
    R1 w (w2.drew.setCells L i (movedG g i m)) n c s L (i + (m - (i + 1))) := by
  rw [show i + (m - (i + 1)) = m - 1 by omega]
  have hr2 := rowIs_setCells (movedG g i m) i w2.drew g hrow.drew
  refine ⟨⟨cut f i, hd', tl', lc', pv', nx', _, hC, ?_, hr2, fun j hj => ?_⟩, below_setCells (by omega) _ _ _ hB.drew, hl⟩
  · exact ⟨rowIs_setCells_other (by omega) _ _ _ hL2.ps.drew, fun x hx => rowIs_setCells_other (by omega) _ _ _ (hL2.node x hx).drew, rowIs_setCells_other (by omega) _ _ _ hL2.line.drew⟩
  · rw [movedG_length]
    by_cases hji : i ≤ j
    · rw [if_pos (by omega), movedG_get _ _ _ _ (by omega), show i + 1 + (j - i) = j + 1 by omega, Option.getD_some, hg _ (by omega)]
      simp [cut, show ¬ j < i by omega]
    · rw [if_neg (by omega), hg _ (by omega)]
      simp [cut, show j < i by omega]

set_option maxHeartbeats 400000 in
set_option maxRecDepth 100000 in
theorem remAll_core (a0 a2 a3 : Int) (a1 : Option Addr) (len1 cap1 : Nat) (pick : Nat → Int) (n c s : Nat) (w : World) (b0 : 0 ≤ a0) (b0' : a0 ≤ 255) (b2 : 0 ≤ a2) (b2' : a2 ≤ 255) (b3 : 0 ≤ a3) (b3' : a3 ≤ 255)
    (hl1 : len1 ≤ 9223372036854775807) (hp : len1 = 0 ∨ ∃ b off, a1 = some ⟨b, off, none⟩ ∧ ∀ k, k < len1 → w.cell? ⟨b, off + k, none⟩ = some (.int .u8 (pick k)) ∧ 0 ≤ pick k ∧ pick k ≤ 255)
    (e0 : a0 % 32 + 1 = n) (e2 : a2 % (n + 1) = c) (e3 : a3 % 2 = s) (hn : 0 < n) (hn32 : n ≤ 32) (hc : c ≤ n) (hs : s = 0 ∨ s = 1) :
    Calls Yba.prog 4 #[.int .u8 a0, .slice a1 len1 cap1, .int .u8 a2, .int .u8 a3] w fun e w' => e = .returned (.bool true) ∧ Below w.heap.size w w' := by
  have hs1 : s ≤ 1 := by omega
  obtain ⟨i0, hi, hz0, hz1, hz2⟩ := info_parts Yba.info28
  have hmk := run_make_row' (P := Yba.prog) 24 28 (.pointer none) 8 Yba.underlying24 Yba.info28 rfl .i64 .i64 n (by omega) (by omega)
  have HP : Hid (len1 = 0 ∨ ∃ b off, a1 = some ⟨b, off, none⟩ ∧ ∀ k, k < len1 → w.cell? ⟨b, off + k, none⟩ = some (.int .u8 (pick k)) ∧ 0 ≤ pick k ∧ pick k ≤ 255) := hp
  clear hp
  go_enter Yba.func4, Yba.ntmps4
  go_wp2_with fail
  refine (build_any n c s _ hn (by omega) hc hs).mono ?_
  rintro e w1 ⟨rfl, hL, hB, hz⟩
  obtain ⟨W0, hcopy, HR⟩ := R1.start hn hB (by omega) hL
  clear hB hz hL
  go_wp2
  clear hmk hcopy
  generalize w1.heap.size = L at HR ⊢
  go_loopg [14, 15] n (fun gg v i wr => ∃ k m : Nat, k + m = n ∧ gg = m ∧ i = .int .i64 k ∧ v = .slice (some ⟨L, 0, none⟩) m n ∧ R1 w wr n c s L m)
  case atStart => exact ⟨0, n, Nat.zero_add n, rfl, rfl, rfl, HR⟩
  case round =>
    clear HR
    obtain ⟨k, m, hkm, rfl, rfl, rfl, hR⟩ := hrel
    have HK : Hid (k + gk = n) := hkm
    have hk1 : k + gk ≤ n := by omega
    have hk2 : n ≤ k + gk := by omega
    clear hkm
    by_cases hm : 0 < gk
    · go_upto_if 49 with fail
      go_cut [16] (fun v wx => wr = wx ∧ ∃ pk : Int, v = .int .u8 pk ∧ 0 ≤ pk ∧ pk ≤ 255)
      case first =>
        by_cases hkl : k < len1
        · rcases HP.out with h0 | ⟨b, off, rfl, hpk⟩
          · exfalso; omega
          · obtain ⟨hcell, hp0, hp1⟩ := hpk k hkl
            have hcell' : wr.cell? ⟨b, off + k, none⟩ = some (.int .u8 (pick k)) := (hR.bel.cell (p := ⟨b, off + k, none⟩) (World.block_lt_of_cell? _ _ hcell)).trans hcell
            clear hcell hpk
            go_wp2
            go_meet
            exact ⟨rfl, pick k, rfl, hp0, hp1⟩
        · go_wp2
          go_meet
          exact ⟨rfl, 0, rfl, by omega, by omega⟩
      case rest =>
        obtain ⟨rfl, pk, rfl, hp0, hp1⟩ := hcut
        obtain ⟨i, hi0⟩ : ∃ i : Nat, pk % (gk : Int) = i := ⟨(pk % (gk : Int)).toNat, by have := Int.emod_nonneg pk (b := (gk : Int)) (by omega); omega⟩
        have hig : i < gk := by have := Int.emod_lt_of_pos pk (b := (gk : Int)) (by omega); omega
        obtain ⟨f, hd, tl, lc, pv, nx, g, hC, hL, hrow, hg⟩ := hR.ln
        have hci := hrow.cell (i := i) (by omega)
        rw [hg i hig] at hci
        simp only [pt, Option.map_some] at hci
        have HBel : Hid _ := hR.bel
        have HHL : Hid _ := hR.hL
        have HG : Hid (∀ j, j < gk → g j = pt w.heap.size (some (f j))) := hg
        have HRow : Hid (wr.rowIs L 28 n g) := hrow
        clear hR hg hrow
        go_wp2_with fail
        refine (rm_ln hL hs (f i) (hC.lt i hig) (hC.pv_lt i hig) (hC.nx_lt i hig) hC.lc_lt).mono ?_
        rintro e w2 ⟨rfl, hL2, hB2, hz2, hoth⟩
        have hlw := HRow.out.lt
        have hrow2 : w2.rowIs L 28 n g := HRow.out.of_block (hoth L HHL.out hlw)
        have HS : Hid _ := R1.step (hC.removed i hig) hL2 hrow2 HG.out (HBel.out.trans hB2) HHL.out hig (by omega)
        obtain ⟨A, hA, hnews⟩ : ∃ A : Addr, (if n = i + 1 then some (⟨L, 0, none⟩ : Addr) else some ⟨L, i + 1, none⟩) = some A ∧ Hid (∀ j u, (movedG g i gk)[j]? = some u → w2.drew.cell? (A.add j) = some u) := by
          by_cases h : n = i + 1
          · refine ⟨⟨L, 0, none⟩, by simp [h], fun j u hu => ?_⟩
            have h0 : (movedG g i gk).length = 0 := by rw [movedG_length]; omega
            rw [List.length_eq_zero_iff.1 h0] at hu
            simp at hu
          · refine ⟨⟨L, i + 1, none⟩, by simp [h], fun j u hu => ?_⟩
            have hj : j < gk - (i + 1) := by
              have := (List.getElem?_eq_some_iff.1 hu).1
              rwa [movedG_length] at this
            rw [movedG_get _ _ _ _ hj] at hu
            rw [Addr.add_lit]
            exact (hrow2.cell (by omega)).trans hu
        have s1 : Hid ((movedG g i gk).length = (gk - (i + 1)) * 1) := by rw [Nat.mul_one]; exact movedG_length _ _ _
        have s2 : Hid (∀ u ∈ movedG g i gk, u.oneCell' = true) := by
          intro u hu
          obtain ⟨j, hj, rfl⟩ := List.mem_map.1 hu
          rw [HG.out _ (by have := List.mem_range.1 hj; omega)]
          rfl
        have s3 : Hid (∀ j, j < (movedG g i gk).length → (w2.drew.cell? ⟨L, 0 + i * 1 + j, none⟩).isSome = true ∧ w2.drew.frozen? ⟨L, 0 + i * 1 + j, none⟩ = false) := by
          intro j hj
          rw [movedG_length] at hj
          rw [show 0 + i * 1 + j = i + j by omega]
          exact ⟨by show (w2.cell? _).isSome = true; rw [hrow2.cell (by omega)]; rfl, hrow2.frozen _⟩
        have hic : i ≤ n := by omega
        have hwr : IntKind.i64.wrap ((i : Int) + 1) = (i : Int) + 1 := by rw [IntKind.wrap_i64]; omega
        have hq0 : (0 : Int) ≤ (i : Int) + 1 := by omega
        have hq1 : (i : Int) + 1 ≤ (gk : Int) := by omega
        have hq2 : ((i : Int) + 1).toNat = i + 1 := by omega
        clear hL2 hB2 hz2 hoth hrow2 hL hC hci hlw
        go_wp2_with fail
        go_region_law (refine step_append_room rfl (.tmp 68) (.tmp 72) 24 rfl 28 i0 1 Yba.underlying24 hi hz1 L 0 i n (by simp [Act.eval, Act.put]) A (gk - (i + 1)) (n - (i + 1)) (movedG g i gk) (by simp [Act.eval, Act.put]) s1.out hnews.out s2.out (by omega) s3.out ?_)
        go_wp2
        go_roundg (i + (gk - (i + 1)))
        case measure => omega
        case rel => exact ⟨k + 1, i + (gk - (i + 1)), by omega, rfl, by go_num, rfl, HS.out⟩
    · obtain rfl : gk = 0 := by omega
      obtain ⟨f, hd, tl, lc, pv, nx, g, hC, hL, hrow, hg⟩ := hR.ln
      have hl0 := hL.line.cell (i := 0) (by omega)
      have hl1' := hL.line.cell (i := 1) (by omega)
      have hl2 := hL.line.cell (i := 2) (by omega)
      obtain ⟨rfl, rfl, rfl⟩ := hC.empty
      simp only [lineF, if_true, show ¬ (1 : Nat) = 0 by omega, show ¬ (2 : Nat) = 0 by omega, show ¬ (2 : Nat) = 1 by omega, if_false, pt, Option.map_none] at hl0 hl1' hl2
      have HBel : Hid _ := hR.bel
      clear hR hC hL hrow hg
      go_wp2
      go_ret
      exact ⟨by simp, HBel.out⟩
end Go.Proofs.Ybulkxos
