/-
  reachability's region 26 ('lastWriter[o], readers[o] = t, r[:0]'), walked by itself.
-/
import Derived.Test.YbulkxosCSubM
import Derived.Test.YbulkxosCReg
import Derived.Deep.DeepCutAuto
import Derived.Deep.RegionHeld3
namespace Go.Proofs.Ybulkxos
open Go.RowKit
set_option linter.unusedVariables false
set_option linter.unusedSimpArgs false

set_option maxHeartbeats 4000000 in
set_option maxRecDepth 100000 in
theorem reg26 (w0 wc : World) (lw : Nat → Int) (ls : Nat → List Nat) (val : Nat → Value) (o t xb n q0 : Nat) (a0 : Option Addr) (cs : Array Value) (u0 u1 u2 u3 u4 u5 u7 u9 u11 u13 u14 u15 u16 u17 u18 u19 u20 u21 u22 u23 u24 u25 u26 u27 u28 u29 u30 u31 u32 u33 u34 u35 u36 u37 u38 u39 u40 u41 u42 u43 u44 u45 u46 u47 u48 u49 u50 u51 u52 u53 u54 u55 u56 u57 u58 u59 u60 u61 u62 u63 u64 u65 u66 u67 u68 u69 u70 u71 u72 u73 u74 u75 u76 u77 u78 u79 u80 u81 u82 u83 u84 u85 u86 u87 u88 u89 u90 u91 u92 u93 u94 u95 u96 u97 u98 u99 u100 u101 u102 u103 u104 u105 u106 u107 u108 u109 u110 u111 u112 u113 u114 u115 u116 u117 u118 : Value) (ops : Array Oper) (hops : (Yba.f11.body.bind (findReg 26)) = some ops)
    (h : RS w0 wc lw ls val) (hX : wc.heap[xb]? = some (.cells cs 60 (0, 0))) (hxb : w0.heap.size + 4 ≤ xb) (hx0 : cs[0]? = some (.int .i32 (t : Nat))) (hx1 : cs[1]? = some (.int .i32 (o : Nat))) (ho : o < 4) (hnl : n ≤ 1024) (hv : val (8 + o) = .slice a0 n q0)
    (Q : Exit → Act → World → Prop) (hQ : ∀ (x105 x106 x107 x108 x109 x110 x111 x112 x113 x114 x115 x116 : Value) (w' : World) (val' : Nat → Value), RS w0 w' (putV lw o (t : Nat)) (putV ls (8 + o) []) val' → Q .normal ⟨#[u0, u1, u2, u3, u4, u5, .slice (some ⟨w0.heap.size + 2, 0, none⟩) 4 4, u7, .slice (some ⟨w0.heap.size + 3, 0, none⟩) 4 4, u9, .pointer (some ⟨xb, 0, none⟩), u11, .slice a0 n q0, u13, u14, u15, u16, u17, u18, u19, u20, u21, u22, u23, u24, u25, u26, u27, u28, u29, u30, u31, u32, u33, u34, u35, u36, u37, u38, u39, u40, u41, u42, u43, u44, u45, u46, u47, u48, u49, u50, u51, u52, u53, u54, u55, u56, u57, u58, u59, u60, u61, u62, u63, u64, u65, u66, u67, u68, u69, u70, u71, u72, u73, u74, u75, u76, u77, u78, u79, u80, u81, u82, u83, u84, u85, u86, u87, u88, u89, u90, u91, u92, u93, u94, u95, u96, u97, u98, u99, u100, u101, u102, u103, u104, x105, x106, x107, x108, x109, x110, x111, x112, x113, x114, x115, x116, u117, u118], []⟩ w') :
    (Code.region 26 ops true).wp Yba.prog Q ⟨#[u0, u1, u2, u3, u4, u5, .slice (some ⟨w0.heap.size + 2, 0, none⟩) 4 4, u7, .slice (some ⟨w0.heap.size + 3, 0, none⟩) 4 4, u9, .pointer (some ⟨xb, 0, none⟩), u11, .slice a0 n q0, u13, u14, u15, u16, u17, u18, u19, u20, u21, u22, u23, u24, u25, u26, u27, u28, u29, u30, u31, u32, u33, u34, u35, u36, u37, u38, u39, u40, u41, u42, u43, u44, u45, u46, u47, u48, u49, u50, u51, u52, u53, u54, u55, u56, u57, u58, u59, u60, u61, u62, u63, u64, u65, u66, u67, u68, u69, u70, u71, u72, u73, u74, u75, u76, u77, u78, u79, u80, u81, u82, u83, u84, u85, u86, u87, u88, u89, u90, u91, u92, u93, u94, u95, u96, u97, u98, u99, u100, u101, u102, u103, u104, u105, u106, u107, u108, u109, u110, u111, u112, u113, u114, u115, u116, u117, u118], []⟩ wc := by
  rw [show (Yba.f11.body.bind (findReg 26)) = some _ from rfl] at hops
  cases hops
  refine wp_region_noPanic ?_
  have r1 : wc.cell? ⟨xb, 0, none⟩ = some (.int .i32 (t : Nat)) := by simp [World.cell?, hX, hx0]
  have r2 : wc.cell? ⟨xb, 1, none⟩ = some (.int .i32 (o : Nat)) := by simp [World.cell?, hX, hx1]
  have hoI : (o : Int) < 4 := by omega
  have hA2 : xb ≠ w0.heap.size + 2 := by omega
  have hA3 : xb ≠ w0.heap.size + 3 := by omega
  have z1 := h.lr.cell ho
  have z1f := h.lr.frozen o
  have z2 := h.rr.cell ho
  have z2f := h.rr.frozen o
  have HE1 : Hid (∀ k, RS w0 (((wc.setCell ⟨w0.heap.size + 2, o, none⟩ (.int .i32 (t : Nat))).setCell ⟨w0.heap.size + 3, o, none⟩ (.slice a0 0 q0)).drewN k) (putV lw o (t : Nat)) (putV ls (8 + o) []) (putV val (8 + o) (.slice a0 0 q0))) := fun k => ((h.setLw o t).trunc o ho a0 n q0 hv).drewN k
  have HE2 : Hid (∀ k, RS w0 (((wc.setCell ⟨w0.heap.size + 3, o, none⟩ (.slice a0 0 q0)).setCell ⟨w0.heap.size + 2, o, none⟩ (.int .i32 (t : Nat))).drewN k) (putV lw o (t : Nat)) (putV ls (8 + o) []) (putV val (8 + o) (.slice a0 0 q0))) := fun k => ((h.trunc o ho a0 n q0 hv).setLw o t).drewN k
  have hqn : n ≤ q0 ∧ (a0 = none → q0 = 0) := by
    have := (h.own (8 + o) (by omega)).2
    rw [hv] at this
    rcases this with ⟨e, _⟩ | ⟨g, cap', cur, e, h1, h2, h3, h4, h5, h6⟩
    · cases e; exact ⟨Nat.le_refl _, fun _ => rfl⟩
    · cases e; exact ⟨by omega, fun x => by cases x⟩
  have hk2 : ∀ (w' : World) (v : Value) (j : Nat), (w'.setCell ⟨w0.heap.size + 2, o, none⟩ v).cell? ⟨xb, j, none⟩ = w'.cell? ⟨xb, j, none⟩ := fun w' v j => World.cell?_setCell_other _ _ _ _ (fun e => hA2 (congrArg Addr.block e).symm)
  have hk3 : ∀ (w' : World) (v : Value) (j : Nat), (w'.setCell ⟨w0.heap.size + 3, o, none⟩ v).cell? ⟨xb, j, none⟩ = w'.cell? ⟨xb, j, none⟩ := fun w' v j => World.cell?_setCell_other _ _ _ _ (fun e => hA3 (congrArg Addr.block e).symm)
  clear h hX hv hx0 hx1
  go_region_held3 (fun w' => w'.cell? ⟨xb, 0, none⟩ = some (.int .i32 (t : Nat)) ∧ w'.cell? ⟨xb, 1, none⟩ = some (.int .i32 (o : Nat))) (first | exact ⟨r1, r2⟩ | exact ⟨(hk2 _ _ _).trans r1, (hk2 _ _ _).trans r2⟩ | exact ⟨(hk3 _ _ _).trans r1, (hk3 _ _ _).trans r2⟩ | exact ⟨(hk2 _ _ _).trans ((hk3 _ _ _).trans r1), (hk2 _ _ _).trans ((hk3 _ _ _).trans r2)⟩ | exact ⟨(hk3 _ _ _).trans ((hk2 _ _ _).trans r1), (hk3 _ _ _).trans ((hk2 _ _ _).trans r2)⟩) (fail)
  all_goals first | exact hQ _ _ _ _ _ _ _ _ _ _ _ _ _ _ (HE1.out 1) | exact hQ _ _ _ _ _ _ _ _ _ _ _ _ _ _ (HE2.out 1)
end Go.Proofs.Ybulkxos
