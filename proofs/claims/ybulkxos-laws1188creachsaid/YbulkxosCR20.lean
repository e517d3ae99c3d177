/-
  reachability's region 20 ('readers[o] = append(r, t)'), walked by itself.
-/
import Derived.Test.YbulkxosCSubM
import Derived.Test.YbulkxosCReg
import Derived.Deep.DeepCutAuto
import Derived.Deep.RegionHeld3
namespace Go.Proofs.Ybulkxos
open Go.RowKit
set_option linter.unusedVariables false
set_option linter.unusedSimpArgs false

set_option maxHeartbeats 4000000 in
set_option maxRecDepth 100000 in
theorem reg20 (w0 wc : World) (lw : Nat → Int) (ls : Nat → List Nat) (val : Nat → Value) (o t xb n q0 : Nat) (a0 : Option Addr) (cs : Array Value) (u0 u1 u2 u3 u4 u5 u6 u7 u9 u11 u13 u14 u15 u16 u17 u18 u19 u20 u21 u22 u23 u24 u25 u26 u27 u28 u29 u30 u31 u32 u33 u34 u35 u36 u37 u38 u39 u40 u41 u42 u43 u44 u45 u46 u47 u48 u49 u50 u51 u52 u53 u54 u55 u56 u57 u58 u59 u60 u61 u62 u63 u64 u65 u66 u67 u68 u69 u70 u71 u72 u73 u74 u75 u76 u77 u78 u79 u80 u81 u82 u83 u84 u85 u86 u87 u88 u89 u90 u91 u92 u93 u94 u95 u96 u97 u98 u99 u100 u101 u102 u103 u104 u105 u106 u107 u108 u109 u110 u111 u112 u113 u114 u115 u116 u117 u118 : Value) (ops : Array Oper) (hops : (Yba.f11.body.bind (findReg 20)) = some ops)
    (h : RS w0 wc lw ls val) (hX : wc.heap[xb]? = some (.cells cs 60 (0, 0))) (hxb : w0.heap.size + 4 ≤ xb) (hx0 : cs[0]? = some (.int .i32 (t : Nat))) (hx1 : cs[1]? = some (.int .i32 (o : Nat))) (ho : o < 4) (hn : n = (ls (8 + o)).length) (hnl : n ≤ 1024) (hv : val (8 + o) = .slice a0 n q0)
    (Q : Exit → Act → World → Prop) (hQ : ∀ (x84 x85 x86 x87 x88 x89 x90 x91 x92 : Value) (w' : World) (val' : Nat → Value), RS w0 w' lw (putV ls (8 + o) (ls (8 + o) ++ [t])) val' → Q .normal ⟨#[u0, u1, u2, u3, u4, u5, u6, u7, .slice (some ⟨w0.heap.size + 3, 0, none⟩) 4 4, u9, .pointer (some ⟨xb, 0, none⟩), u11, .slice a0 n q0, u13, u14, u15, u16, u17, u18, u19, u20, u21, u22, u23, u24, u25, u26, u27, u28, u29, u30, u31, u32, u33, u34, u35, u36, u37, u38, u39, u40, u41, u42, u43, u44, u45, u46, u47, u48, u49, u50, u51, u52, u53, u54, u55, u56, u57, u58, u59, u60, u61, u62, u63, u64, u65, u66, u67, u68, u69, u70, u71, u72, u73, u74, u75, u76, u77, u78, u79, u80, u81, u82, u83, x84, x85, x86, x87, x88, x89, x90, x91, x92, u93, u94, u95, u96, u97, u98, u99, u100, u101, u102, u103, u104, u105, u106, u107, u108, u109, u110, u111, u112, u113, u114, u115, u116, u117, u118], []⟩ w') :
    (Code.region 20 ops true).wp Yba.prog Q ⟨#[u0, u1, u2, u3, u4, u5, u6, u7, .slice (some ⟨w0.heap.size + 3, 0, none⟩) 4 4, u9, .pointer (some ⟨xb, 0, none⟩), u11, .slice a0 n q0, u13, u14, u15, u16, u17, u18, u19, u20, u21, u22, u23, u24, u25, u26, u27, u28, u29, u30, u31, u32, u33, u34, u35, u36, u37, u38, u39, u40, u41, u42, u43, u44, u45, u46, u47, u48, u49, u50, u51, u52, u53, u54, u55, u56, u57, u58, u59, u60, u61, u62, u63, u64, u65, u66, u67, u68, u69, u70, u71, u72, u73, u74, u75, u76, u77, u78, u79, u80, u81, u82, u83, u84, u85, u86, u87, u88, u89, u90, u91, u92, u93, u94, u95, u96, u97, u98, u99, u100, u101, u102, u103, u104, u105, u106, u107, u108, u109, u110, u111, u112, u113, u114, u115, u116, u117, u118], []⟩ wc := by
  rw [show (Yba.f11.body.bind (findReg 20)) = some _ from rfl] at hops
  cases hops
  refine wp_region_noPanic ?_
  have hFW := (h.alloc (.cells #[.int .i32 (t : Nat)] 21)).drew
  have hnb : ∀ j u, ([.int .i32 (t : Nat)] : List Value)[j]? = some u → ((wc.alloc (.cells #[.int .i32 (t : Nat)] 21)).drew).cell? ((⟨wc.heap.size, 0, none⟩ : Addr).add j) = some u := World.news_of_block (w := ((wc.alloc (.cells #[.int .i32 (t : Nat)] 21)).drew)) (B := wc.heap.size) (cs := #[.int .i32 (t : Nat)]) (t := 21) (fr := (0, 0)) (heap_alloc_new _ _)
  have hz : ((wc.alloc (.cells #[.int .i32 (t : Nat)] 21)).drew).heap.size = wc.heap.size + 1 := by simp
  have hone : ∀ u ∈ ([.int .i32 (t : Nat)] : List Value), u.oneCell' = true := by intro u hu; simp at hu; subst hu; rfl
  have hsz := h.size
  have r1 : wc.cell? ⟨xb, 0, none⟩ = some (.int .i32 (t : Nat)) := by simp [World.cell?, hX, hx0]
  have r2 : wc.cell? ⟨xb, 1, none⟩ = some (.int .i32 (o : Nat)) := by simp [World.cell?, hX, hx1]
  have hown0 : ((wc.alloc (.cells #[.int .i32 (t : Nat)] 21)).drew).ownsRow (w0.heap.size + 4) 21 1 (.slice a0 n q0) n (ints (ls (8 + o))) := by
    have := hFW.own (8 + o) (by omega)
    rw [hv, ← hn] at this
    exact this
  have hm1 : n + 1 ≤ maxLen := by unfold maxLen; omega
  have hm2 : (n + 1) * 4 ≤ 140737488355328 := by omega
  have hm3 : w0.heap.size + 4 ≤ ((wc.alloc (.cells #[.int .i32 (t : Nat)] 21)).drew).heap.size := by rw [hz]; omega
  have hBlt : w0.heap.size + 3 < wc.heap.size := by omega
  have hXlt : xb < wc.heap.size := (Array.getElem?_eq_some_iff.1 hX).1
  have hoI : (o : Int) < 4 := by omega
  have hvW : ((wc.alloc (.cells #[.int .i32 (t : Nat)] 21)).drew).heap[xb]? = some (.cells cs 60 (0, 0)) := (Deep.blk_alloc_lt _ _ _ hXlt).trans hX
  have hAf : ∀ w3, ((wc.alloc (.cells #[.int .i32 (t : Nat)] 21)).drew).grownBy w3 (Value.slice a0 n q0).ownBlock → w3.cell? ⟨xb, 0, none⟩ = some (.int .i32 (t : Nat)) ∧ w3.cell? ⟨xb, 1, none⟩ = some (.int .i32 (o : Nat)) ∧ w3.cell? ⟨w0.heap.size + 3, o, none⟩ = some (.slice a0 n q0) ∧ w3.frozen? ⟨w0.heap.size + 3, o, none⟩ = false := by
    intro w3 hg
    rw [← hv] at hg
    have hH := hFW.hdrs_of hg (hFW.own_ge _ (by omega))
    have hv2 := (hg.block xb (Array.getElem?_eq_some_iff.1 hvW).1 (hFW.far hvW (by decide) _ (by omega))).trans hvW
    refine ⟨by simp [World.cell?, hv2, hx0], by simp [World.cell?, hv2, hx1], ?_, hH.2.2.2.frozen _⟩
    rw [← hv]
    exact hH.2.2.2.cell ho
  have HEnd : Hid (∀ (g cp : Nat) (w3 : World), w3.ownsRow (w0.heap.size + 4) 21 1 (.slice (some ⟨g, 0, none⟩) (n + 1) cp) (n + 1) (ints (ls (8 + o)) ++ [.int .i32 (t : Nat)]) → ((wc.alloc (.cells #[.int .i32 (t : Nat)] 21)).drew).grownBy w3 (Value.slice a0 n q0).ownBlock → ((Value.slice a0 n q0).ownBlock = some g ∨ g = wc.heap.size + 1) →
      ∃ val', RS w0 (w3.setCell ⟨w0.heap.size + 3, o, none⟩ (.slice (some ⟨g, 0, none⟩) (n + 1) cp)) lw (putV ls (8 + o) (ls (8 + o) ++ [t])) val') := by
    intro g cp w3 hown hgrow hat
    rw [← hv] at hgrow hat
    refine ⟨_, hFW.put (8 + o) (w0.heap.size + 3) o (by omega) (.inr ⟨by omega, rfl, rfl⟩) (ls (8 + o) ++ [t]) _ ?_ hgrow ?_⟩
    · rw [hn] at hown ⊢
      simpa [ints] using hown
    · rcases hat with e | e
      · exact .inr (.inl (by rw [e]; rfl))
      · exact .inr (.inr (.inl (by rw [e, hz]; rfl)))
  clear h hFW hX hvW hv hn hx0 hx1
  obtain ⟨i0, hi, hz0, hz1, hz2⟩ := info_parts Yba.info21
  go_region_law (first | (refine step_append_lies _ rfl (.tmp 87) (.tmp 90) 50 rfl (w0.heap.size + 4) 21 i0 _ 1 4 Yba.underlying50 hi hz0 hz1 hz2 rfl (by decide) (.slice a0 n q0) n (ints (ls (8 + o))) rfl hown0 ⟨wc.heap.size, 0, none⟩ 1 1 [.int .i32 (t : Nat)] rfl rfl hnb hone (by decide) hm1 hm2 hm3 (wc.heap.size + 1) hz ?_; intro g cp w3 hown hgrow hat hlt; obtain ⟨q1, q2, q3, q4⟩ := hAf w3 hgrow))
  all_goals (obtain ⟨val', f1⟩ := HEnd.out g cp w3 hown hgrow hat; exact hQ _ _ _ _ _ _ _ _ _ _ val' f1)
end Go.Proofs.Ybulkxos
