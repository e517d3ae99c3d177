/-
  zzs1188cbuild, region 14, walked by itself.
-/
import Derived.Test.YbulkxosCReg
import Derived.Deep.DeepCutAuto
import Derived.Deep.RegionHeld3
namespace Go.Proofs.Ybulkxos
open Go.RowKit
set_option linter.unusedVariables false
set_option linter.unusedSimpArgs false

set_option maxHeartbeats 4000000 in
set_option maxRecDepth 100000 in
theorem reg14 (w0 wc : World) (D : Dat) (c : Nat → Nat) (k vb : Nat) (val : Nat → Value) (lv : Value) (cs : Array Value) (u0 u1 u2 u4 u5 u8 u10 u11 u12 u13 u14 u15 u16 u17 u18 u19 u20 u21 u22 u23 u24 u25 u26 u27 u28 u29 u30 u31 u32 u33 u34 u35 u36 u37 u38 u39 u40 u41 u42 u43 u44 u45 u46 u47 u48 u49 u50 u51 u52 u53 u54 u55 u56 u57 u58 u59 u60 u61 u62 u63 u64 u65 u66 u67 u68 u69 u70 u71 u72 u73 u74 u75 u76 u77 u78 u79 u80 u81 u82 u83 u84 u85 u86 u87 u88 u89 u90 u91 u92 u93 u94 u95 u96 u97 u98 u99 u100 u101 u102 u103 u104 u105 u106 u107 u108 u109 u110 u111 u112 u113 u114 u115 u116 u117 u118 u119 u120 u121 u122 u123 u124 u125 u126 u127 u128 u129 u130 u131 u132 u133 u134 u135 : Value) (ops : Array Oper) (hops : (Yba.f9.body.bind (findReg 14)) = some ops)
    (hF : Fam w0 wc D c (k + 1) val lv) (hV : wc.heap[vb]? = some (.cells cs 65 (0, 0))) (hvbA : w0.heap.size + 4 ≤ vb) (hk : k < 1024) (hOlt : D.O k < 4) (hTlt : D.T k < 8) (hc : c (D.O k) = k) (hP : slotP D (D.O k) k = true)
    (Q : Exit → Act → World → Prop) (hQ : ∀ (x81 x82 x83 x84 x85 x86 x87 x88 x89 x90 x91 x92 x93 x94 x95 x96 x97 x98 : Value) (w' : World) (val' : Nat → Value), Fam w0 w' D (putV c (D.O k) (k + 1)) (k + 1) val' lv → w'.heap[vb]? = some (.cells cs 65 (0, 0)) → Q .normal ⟨#[u0, u1, u2, .pointer (some ⟨w0.heap.size, 0, none⟩), u4, u5, .int .i32 (D.T k : Nat), .int .i32 (D.O k : Nat), u8, .int .i32 (k : Nat), u10, u11, u12, u13, u14, u15, u16, u17, u18, u19, u20, u21, u22, u23, u24, u25, u26, u27, u28, u29, u30, u31, u32, u33, u34, u35, u36, u37, u38, u39, u40, u41, u42, u43, u44, u45, u46, u47, u48, u49, u50, u51, u52, u53, u54, u55, u56, u57, u58, u59, u60, u61, u62, u63, u64, u65, u66, u67, u68, u69, u70, u71, u72, u73, u74, u75, u76, u77, u78, u79, u80, x81, x82, x83, x84, x85, x86, x87, x88, x89, x90, x91, x92, x93, x94, x95, x96, x97, x98, u99, u100, u101, u102, u103, u104, u105, u106, u107, u108, u109, u110, u111, u112, u113, u114, u115, u116, u117, u118, u119, u120, u121, u122, u123, u124, u125, u126, u127, u128, u129, u130, u131, u132, u133, u134, u135], []⟩ w') :
    (Code.region 14 ops true).wp Yba.prog Q ⟨#[u0, u1, u2, .pointer (some ⟨w0.heap.size, 0, none⟩), u4, u5, .int .i32 (D.T k : Nat), .int .i32 (D.O k : Nat), u8, .int .i32 (k : Nat), u10, u11, u12, u13, u14, u15, u16, u17, u18, u19, u20, u21, u22, u23, u24, u25, u26, u27, u28, u29, u30, u31, u32, u33, u34, u35, u36, u37, u38, u39, u40, u41, u42, u43, u44, u45, u46, u47, u48, u49, u50, u51, u52, u53, u54, u55, u56, u57, u58, u59, u60, u61, u62, u63, u64, u65, u66, u67, u68, u69, u70, u71, u72, u73, u74, u75, u76, u77, u78, u79, u80, u81, u82, u83, u84, u85, u86, u87, u88, u89, u90, u91, u92, u93, u94, u95, u96, u97, u98, u99, u100, u101, u102, u103, u104, u105, u106, u107, u108, u109, u110, u111, u112, u113, u114, u115, u116, u117, u118, u119, u120, u121, u122, u123, u124, u125, u126, u127, u128, u129, u130, u131, u132, u133, u134, u135], []⟩ wc := by
  rw [show (Yba.f9.body.bind (findReg 14)) = some _ from rfl] at hops
  cases hops
  refine wp_region_noPanic ?_
  have hFW := (hF.alloc (.cells #[.int .i32 (k : Nat)] 21)).drew
  have hnb : ∀ j u, ([.int .i32 (k : Nat)] : List Value)[j]? = some u → ((wc.alloc (.cells #[.int .i32 (k : Nat)] 21)).drew).cell? ((⟨wc.heap.size, 0, none⟩ : Addr).add j) = some u := World.news_of_block (w := (wc.alloc (.cells #[.int .i32 (k : Nat)] 21)).drew) (B := wc.heap.size) (cs := #[.int .i32 (k : Nat)]) (t := 21) (fr := (0, 0)) (heap_alloc_new _ _)
  have hz : ((wc.alloc (.cells #[.int .i32 (k : Nat)] 21)).drew).heap.size = wc.heap.size + 1 := by simp
  have hone : ∀ u ∈ ([.int .i32 (k : Nat)] : List Value), u.oneCell' = true := by intro u hu; simp at hu; subst hu; rfl
  have hsz := hF.size
  have r1 := hF.row.cell (i := 1) (by omega)
  simp only [hdrF, show ¬ (1 : Nat) = 0 by omega, show ¬ (2 : Nat) = 0 by omega, show ¬ (2 : Nat) = 1 by omega, show ¬ (3 : Nat) = 0 by omega, show ¬ (3 : Nat) = 1 by omega, show ¬ (3 : Nat) = 2 by omega, if_false, if_true] at r1
  have r2 := hF.o0.cell (i := D.O k) (by omega)
  have hown0 : ((wc.alloc (.cells #[.int .i32 (k : Nat)] 21)).drew).ownsRow (w0.heap.size + 4) 21 1 (val (D.O k)) (idx (slotP D (D.O k)) k) (ints (sel (slotP D (D.O k)) k)) := by
    have := hFW.own (D.O k) (by omega)
    rw [hc] at this
    exact this
  have hnle : idx (slotP D (D.O k)) k ≤ 1024 := Nat.le_trans (idx_le _ _) (by omega)
  have hm1 : idx (slotP D (D.O k)) k + 1 ≤ maxLen := by unfold maxLen; omega
  have hm2 : (idx (slotP D (D.O k)) k + 1) * 4 ≤ 140737488355328 := by omega
  have hm3 : w0.heap.size + 4 ≤ ((wc.alloc (.cells #[.int .i32 (k : Nat)] 21)).drew).heap.size := by rw [hz]; omega
  have hAlt : w0.heap.size < wc.heap.size := by omega
  have hBlt : w0.heap.size + 1 < wc.heap.size := by omega
  have hOI : (D.O k : Int) < 4 := by omega
  have hTI : (D.T k : Int) < 8 := by omega
  have hAf : ∀ w3, ((wc.alloc (.cells #[.int .i32 (k : Nat)] 21)).drew).grownBy w3 (val (D.O k)).ownBlock → w3.cell? ⟨w0.heap.size, 1, none⟩ = some (.slice (some ⟨w0.heap.size + 1, 0, none⟩) 4 4) ∧ w3.cell? ⟨w0.heap.size + 1, D.O k, none⟩ = some (val (D.O k)) ∧ w3.frozen? ⟨w0.heap.size + 1, D.O k, none⟩ = false := by
    intro w3 hg
    have hH := hFW.hdrs_of hg (hFW.own_ge _ (by omega))
    exact ⟨by have := hH.1.cell (i := 1) (by omega); simpa [hdrF] using this, hH.2.1.cell (i := D.O k) (by omega), hH.2.1.frozen _⟩
  have HEnd : Hid (∀ (g cp : Nat) (w3 : World), w3.ownsRow (w0.heap.size + 4) 21 1 (.slice (some ⟨g, 0, none⟩) (idx (slotP D (D.O k)) k + 1) cp) (idx (slotP D (D.O k)) k + 1) (ints (sel (slotP D (D.O k)) k) ++ [.int .i32 (k : Nat)]) → ((wc.alloc (.cells #[.int .i32 (k : Nat)] 21)).drew).grownBy w3 (val (D.O k)).ownBlock → ((val (D.O k)).ownBlock = some g ∨ g = wc.heap.size + 1) →
      ∃ val', Fam w0 (w3.setCell ⟨w0.heap.size + 1, D.O k, none⟩ (.slice (some ⟨g, 0, none⟩) (idx (slotP D (D.O k)) k + 1) cp)) D (putV c (D.O k) (k + 1)) (k + 1) val' lv ∧ (w3.setCell ⟨w0.heap.size + 1, D.O k, none⟩ (.slice (some ⟨g, 0, none⟩) (idx (slotP D (D.O k)) k + 1) cp)).heap[vb]? = some (.cells cs 65 (0, 0))) := by
    intro g cp w3 hown hgrow hat
    have hv : ((wc.alloc (.cells #[.int .i32 (k : Nat)] 21)).drew).heap[vb]? = some (.cells cs 65 (0, 0)) := (Deep.blk_alloc_lt _ _ _ (Array.getElem?_eq_some_iff.1 hV).1).trans hV
    have hv2 := (hgrow.block vb (Array.getElem?_eq_some_iff.1 hv).1 (hFW.far hv (by decide) _ (by omega))).trans hv
    have h1 := hFW.push (D.O k) (w0.heap.size + 1) (D.O k) (by omega) (.inl ⟨hOlt, rfl, rfl⟩) (by rw [hc]; exact hP) g cp (wc.heap.size + 1) (by rw [hc]; exact hown) hgrow hat hz
    rw [hc] at h1
    exact ⟨_, h1, (Deep.blk_setCell_other _ _ _ _ (by show vb ≠ w0.heap.size + 1; omega)).trans hv2⟩
  clear hP hc hF hFW hV
  obtain ⟨i0, hi, hz0, hz1, hz2⟩ := info_parts Yba.info21
  go_region_law (first | (refine step_append_lies _ rfl (.tmp 94) (.tmp 96) 50 rfl (w0.heap.size + 4) 21 i0 _ 1 4 Yba.underlying50 hi hz0 hz1 hz2 rfl (by decide) (val (D.O k)) (idx (slotP D (D.O k)) k) (ints (sel (slotP D (D.O k)) k)) rfl hown0 ⟨wc.heap.size, 0, none⟩ 1 1 [.int .i32 (k : Nat)] rfl rfl hnb hone (by decide) hm1 hm2 hm3 (wc.heap.size + 1) hz ?_; intro g cp w3 hown hgrow hat hlt; obtain ⟨q1, q2, q3⟩ := hAf w3 hgrow))
  all_goals (obtain ⟨val', f1, f2⟩ := HEnd.out g cp w3 hown hgrow hat; exact hQ _ _ _ _ _ _ _ _ _ _ _ _ _ _ _ _ _ _ _ val' f1 f2)
end Go.Proofs.Ybulkxos
