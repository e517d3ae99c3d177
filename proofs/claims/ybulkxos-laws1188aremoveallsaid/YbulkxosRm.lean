/-
  THE WALK of '(*line).remove' (function 8), and the law of '==' between two pointers to requests.
-/
import Derived.Test.YbulkxosRows
import Derived.Test.YbulkxosLn
import Derived.WalkKit
import Derived.WalkSpells
import Derived.WalkLawsBesides
import Derived.LaidEqlPtr
namespace Go.Proofs.Ybulkxos
open Go.RowKit
set_option linter.unusedVariables false

theorem plainB_setCell (w : World) (a : Addr) (v : Value) (b : Nat) : plainB (w.setCell a v) b = plainB w b := by
  by_cases e : a.block = b
  · subst e
    unfold plainB
    refine propext ⟨?_, ?_⟩
    · rintro ⟨c, t, h⟩
      simp only [World.setCell, Array.getElem?_modify, if_true] at h
      cases hh : w.heap[a.block]? with
      | none => simp [hh] at h
      | some o =>
        cases o with
        | cells c' t' f' =>
          simp [hh] at h
          exact ⟨c', t', by rw [h.2.2]⟩
        | _ => simp [hh] at h
    · rintro ⟨c, t, h⟩
      exact ⟨if a.spot.isSome = true then c else c.setIfInBounds a.off v, t, by simp [World.setCell, Array.getElem?_modify, h]⟩
  · unfold plainB
    rw [Deep.blk_setCell_other _ _ _ _ (fun x => e x.symm)]
theorem plainB_alloc (w : World) (o : Obj) (b : Nat) (h : b < w.heap.size) : plainB (w.alloc o) b = plainB w b := by
  unfold plainB
  rw [Deep.blk_alloc_lt _ _ _ h]
-- not by 'rfl': a lemma that is proved by 'rfl' is not taken where simp pays a side condition
theorem plainB_drew (w : World) (b : Nat) : plainB w.drew b = plainB w b := by
  unfold plainB
  exact propext Iff.rfl
theorem plainB_drewN (w : World) (k b : Nat) : plainB (w.drewN k) b = plainB w b := by
  unfold plainB
  exact propext Iff.rfl

theorem plainB_lt {w : World} {b : Nat} (h : plainB w b) : b < w.heap.size := by
  obtain ⟨c, t, h⟩ := h
  exact (Array.getElem?_eq_some_iff.1 h).1

theorem Yba.info43 : (Yba.prog.info? 43).map (fun i => (i.size)) = some 14 := by kernel_rfl

theorem equalIn_ptr (W : World) (x y : Nat) (hx : plainB W x) (hy : plainB W y) (d : Nat) :
    (Op.equalIn (d + 1) 28 (.pointer (some ⟨x, 0, none⟩)) (.pointer (some ⟨y, 0, none⟩))).run Yba.prog W = .ok (decide (x = y)) W := by
  obtain ⟨j, hj, hs⟩ := Option.map_eq_some_iff.1 Yba.info43
  obtain ⟨c, t, hx⟩ := hx
  obtain ⟨c', t', hy⟩ := hy
  by_cases e : x = y
  · subst e
    simp [Op.equalIn, run_underlying Yba.underlying28, sizeOf, typeInfo, hj, run_sameAddr_same]
  · have := run_sameAddr_other W (P := Yba.prog) (a := ⟨x, 0, none⟩) (b := ⟨y, 0, none⟩) (by intro h; exact e (congrArg Addr.block h)) hx hy
    simp [Op.equalIn, run_underlying Yba.underlying28, sizeOf, typeInfo, hj, hs, this, e]

theorem eql_ptr (W : World) (x y : Nat) (hx : plainB W x) (hy : plainB W y) :
    (binOp .eql 28 (.pointer (some ⟨x, 0, none⟩)) (.pointer (some ⟨y, 0, none⟩))).run Yba.prog W = .ok (.bool (decide (x = y))) W := by
  simp only [binOp]
  simp [Op.equal, Op.maxDepth, equalIn_ptr W x y hx hy 9999]

theorem neq_ptr (W : World) (x y : Nat) (hx : plainB W x) (hy : plainB W y) :
    (binOp .neq 28 (.pointer (some ⟨x, 0, none⟩)) (.pointer (some ⟨y, 0, none⟩))).run Yba.prog W = .ok (.bool (!decide (x = y))) W := by
  simp only [binOp]
  simp [Op.equal, Op.maxDepth, equalIn_ptr W x y hx hy 9999]

theorem eql_nil_ptr (W : World) (a : Addr) : (binOp .eql 28 (.pointer none) (.pointer (some a))).run Yba.prog W = .ok (.bool false) W := by
  obtain ⟨j, hj, hs⟩ := Option.map_eq_some_iff.1 Yba.info43
  have h : ∀ d : Nat, (Op.equalIn (d + 1) 28 (.pointer none) (.pointer (some a))).run Yba.prog W = .ok false W := fun d => by
    simp [Op.equalIn, run_underlying Yba.underlying28]
  simp only [binOp]
  simp [Op.equal, Op.maxDepth, h 9999]

attribute [local go_sem] eql_ptr neq_ptr eql_nil_ptr plainB_setCell plainB_alloc plainB_drew plainB_drewN

set_option maxHeartbeats 400000 in
set_option maxRecDepth 100000 in
theorem rm_nnn0 (lb pb : Nat) (v0 v1 : Value) (w : World) (hne : lb ≠ pb) (hpp : plainB w pb)
    (hl0 : At w lb 0 v0) (hl1 : At w lb 1 v1) (hl2 : At w lb 2 (.pointer none)) (hp8 : At w pb 8 (.pointer none)) (hp9 : At w pb 9 (.pointer none)) :
    Calls Yba.prog 8 #[.pointer (some ⟨lb, 0, none⟩), .pointer (some ⟨pb, 0, none⟩), .int .u8 0] w fun e w' => e = .returned (.tuple #[]) ∧ ∃ k, w' = (rmTo w 0 lb pb none none false).drewN k := by
  have l1 := hl0.lt; have l2 := hp8.lt
  obtain ⟨c0, f0⟩ := hl0
  obtain ⟨c1, f1⟩ := hl1
  obtain ⟨c2, f2⟩ := hl2
  obtain ⟨c3, f3⟩ := hp8
  obtain ⟨c4, f4⟩ := hp9
  go_enter Yba.func8, Yba.ntmps8
  go_wp2
  go_end0
  refine ⟨rfl, 0, ?_⟩
  simp only [rmTo, ptr, World.drewN_zero, Option.map_none]

set_option maxHeartbeats 400000 in
set_option maxRecDepth 100000 in
theorem rm_nnn1 (lb pb : Nat) (v0 v1 : Value) (w : World) (hne : lb ≠ pb) (hpp : plainB w pb)
    (hl0 : At w lb 0 v0) (hl1 : At w lb 1 v1) (hl2 : At w lb 2 (.pointer none)) (hp8 : At w pb 10 (.pointer none)) (hp9 : At w pb 11 (.pointer none)) :
    Calls Yba.prog 8 #[.pointer (some ⟨lb, 0, none⟩), .pointer (some ⟨pb, 0, none⟩), .int .u8 1] w fun e w' => e = .returned (.tuple #[]) ∧ ∃ k, w' = (rmTo w 1 lb pb none none false).drewN k := by
  have l1 := hl0.lt; have l2 := hp8.lt
  obtain ⟨c0, f0⟩ := hl0
  obtain ⟨c1, f1⟩ := hl1
  obtain ⟨c2, f2⟩ := hl2
  obtain ⟨c3, f3⟩ := hp8
  obtain ⟨c4, f4⟩ := hp9
  go_enter Yba.func8, Yba.ntmps8
  go_wp2
  go_end0
  refine ⟨rfl, 0, ?_⟩
  simp only [rmTo, ptr, World.drewN_zero, Option.map_none]

set_option maxHeartbeats 400000 in
set_option maxRecDepth 100000 in
theorem rm_nnp0 (lb pb : Nat) (v0 v1 : Value) (w : World) (hne : lb ≠ pb) (hpp : plainB w pb)
    (hl0 : At w lb 0 v0) (hl1 : At w lb 1 v1) (hl2 : At w lb 2 (.pointer (some ⟨pb, 0, none⟩))) (hp8 : At w pb 8 (.pointer none)) (hp9 : At w pb 9 (.pointer none)) :
    Calls Yba.prog 8 #[.pointer (some ⟨lb, 0, none⟩), .pointer (some ⟨pb, 0, none⟩), .int .u8 0] w fun e w' => e = .returned (.tuple #[]) ∧ ∃ k, w' = (rmTo w 0 lb pb none none true).drewN k := by
  have l1 := hl0.lt; have l2 := hp8.lt
  obtain ⟨c0, f0⟩ := hl0
  obtain ⟨c1, f1⟩ := hl1
  obtain ⟨c2, f2⟩ := hl2
  obtain ⟨c3, f3⟩ := hp8
  obtain ⟨c4, f4⟩ := hp9
  go_enter Yba.func8, Yba.ntmps8
  go_wp2
  go_end0
  refine ⟨rfl, 0, ?_⟩
  simp only [rmTo, ptr, World.drewN_zero, Option.map_none]

set_option maxHeartbeats 400000 in
set_option maxRecDepth 100000 in
theorem rm_nnp1 (lb pb : Nat) (v0 v1 : Value) (w : World) (hne : lb ≠ pb) (hpp : plainB w pb)
    (hl0 : At w lb 0 v0) (hl1 : At w lb 1 v1) (hl2 : At w lb 2 (.pointer (some ⟨pb, 0, none⟩))) (hp8 : At w pb 10 (.pointer none)) (hp9 : At w pb 11 (.pointer none)) :
    Calls Yba.prog 8 #[.pointer (some ⟨lb, 0, none⟩), .pointer (some ⟨pb, 0, none⟩), .int .u8 1] w fun e w' => e = .returned (.tuple #[]) ∧ ∃ k, w' = (rmTo w 1 lb pb none none true).drewN k := by
  have l1 := hl0.lt; have l2 := hp8.lt
  obtain ⟨c0, f0⟩ := hl0
  obtain ⟨c1, f1⟩ := hl1
  obtain ⟨c2, f2⟩ := hl2
  obtain ⟨c3, f3⟩ := hp8
  obtain ⟨c4, f4⟩ := hp9
  go_enter Yba.func8, Yba.ntmps8
  go_wp2
  go_end0
  refine ⟨rfl, 0, ?_⟩
  simp only [rmTo, ptr, World.drewN_zero, Option.map_none]

set_option maxHeartbeats 400000 in
set_option maxRecDepth 100000 in
theorem rm_nno0 (lb pb c : Nat) (v0 v1 : Value) (w : World) (hne : lb ≠ pb) (hpp : plainB w pb)
    (hl0 : At w lb 0 v0) (hl1 : At w lb 1 v1) (hl2 : At w lb 2 (.pointer (some ⟨c, 0, none⟩))) (hp8 : At w pb 8 (.pointer none)) (hp9 : At w pb 9 (.pointer none)) (n5 : c ≠ pb) (hcp : plainB w c) :
    Calls Yba.prog 8 #[.pointer (some ⟨lb, 0, none⟩), .pointer (some ⟨pb, 0, none⟩), .int .u8 0] w fun e w' => e = .returned (.tuple #[]) ∧ ∃ k, w' = (rmTo w 0 lb pb none none false).drewN k := by
  have l1 := hl0.lt; have l2 := hp8.lt
  have l5 := plainB_lt hcp
  have e5 : decide (c = pb) = false := by simp [n5]
  obtain ⟨c0, f0⟩ := hl0
  obtain ⟨c1, f1⟩ := hl1
  obtain ⟨c2, f2⟩ := hl2
  obtain ⟨c3, f3⟩ := hp8
  obtain ⟨c4, f4⟩ := hp9
  go_enter Yba.func8, Yba.ntmps8
  go_wp2
  go_end0
  refine ⟨rfl, 0, ?_⟩
  simp only [rmTo, ptr, World.drewN_zero, Option.map_none]

set_option maxHeartbeats 400000 in
set_option maxRecDepth 100000 in
theorem rm_nno1 (lb pb c : Nat) (v0 v1 : Value) (w : World) (hne : lb ≠ pb) (hpp : plainB w pb)
    (hl0 : At w lb 0 v0) (hl1 : At w lb 1 v1) (hl2 : At w lb 2 (.pointer (some ⟨c, 0, none⟩))) (hp8 : At w pb 10 (.pointer none)) (hp9 : At w pb 11 (.pointer none)) (n5 : c ≠ pb) (hcp : plainB w c) :
    Calls Yba.prog 8 #[.pointer (some ⟨lb, 0, none⟩), .pointer (some ⟨pb, 0, none⟩), .int .u8 1] w fun e w' => e = .returned (.tuple #[]) ∧ ∃ k, w' = (rmTo w 1 lb pb none none false).drewN k := by
  have l1 := hl0.lt; have l2 := hp8.lt
  have l5 := plainB_lt hcp
  have e5 : decide (c = pb) = false := by simp [n5]
  obtain ⟨c0, f0⟩ := hl0
  obtain ⟨c1, f1⟩ := hl1
  obtain ⟨c2, f2⟩ := hl2
  obtain ⟨c3, f3⟩ := hp8
  obtain ⟨c4, f4⟩ := hp9
  go_enter Yba.func8, Yba.ntmps8
  go_wp2
  go_end0
  refine ⟨rfl, 0, ?_⟩
  simp only [rmTo, ptr, World.drewN_zero, Option.map_none]

set_option maxHeartbeats 400000 in
set_option maxRecDepth 100000 in
theorem rm_nsn0 (lb pb r : Nat) (v0 v1 vr : Value) (w : World) (hne : lb ≠ pb) (hpp : plainB w pb)
    (hl0 : At w lb 0 v0) (hl1 : At w lb 1 v1) (hl2 : At w lb 2 (.pointer none)) (hp8 : At w pb 8 (.pointer none)) (hp9 : At w pb 9 (.pointer (some ⟨r, 0, none⟩))) (n3 : lb ≠ r) (n4 : r ≠ pb) (hr : At w r 8 vr) :
    Calls Yba.prog 8 #[.pointer (some ⟨lb, 0, none⟩), .pointer (some ⟨pb, 0, none⟩), .int .u8 0] w fun e w' => e = .returned (.tuple #[]) ∧ ∃ k, w' = (rmTo w 0 lb pb none (some r) false).drewN k := by
  have l1 := hl0.lt; have l2 := hp8.lt
  have l4 := hr.lt
  obtain ⟨c0, f0⟩ := hl0
  obtain ⟨c1, f1⟩ := hl1
  obtain ⟨c2, f2⟩ := hl2
  obtain ⟨c3, f3⟩ := hp8
  obtain ⟨c4, f4⟩ := hp9
  obtain ⟨c6, f6⟩ := hr
  go_enter Yba.func8, Yba.ntmps8
  go_wp2
  go_region
  go_wp2
  go_end0
  exact ⟨rfl, 1, rfl⟩

set_option maxHeartbeats 400000 in
set_option maxRecDepth 100000 in
theorem rm_nsn1 (lb pb r : Nat) (v0 v1 vr : Value) (w : World) (hne : lb ≠ pb) (hpp : plainB w pb)
    (hl0 : At w lb 0 v0) (hl1 : At w lb 1 v1) (hl2 : At w lb 2 (.pointer none)) (hp8 : At w pb 10 (.pointer none)) (hp9 : At w pb 11 (.pointer (some ⟨r, 0, none⟩))) (n3 : lb ≠ r) (n4 : r ≠ pb) (hr : At w r 10 vr) :
    Calls Yba.prog 8 #[.pointer (some ⟨lb, 0, none⟩), .pointer (some ⟨pb, 0, none⟩), .int .u8 1] w fun e w' => e = .returned (.tuple #[]) ∧ ∃ k, w' = (rmTo w 1 lb pb none (some r) false).drewN k := by
  have l1 := hl0.lt; have l2 := hp8.lt
  have l4 := hr.lt
  obtain ⟨c0, f0⟩ := hl0
  obtain ⟨c1, f1⟩ := hl1
  obtain ⟨c2, f2⟩ := hl2
  obtain ⟨c3, f3⟩ := hp8
  obtain ⟨c4, f4⟩ := hp9
  obtain ⟨c6, f6⟩ := hr
  go_enter Yba.func8, Yba.ntmps8
  go_wp2
  go_region
  go_wp2
  go_end0
  exact ⟨rfl, 1, rfl⟩

set_option maxHeartbeats 400000 in
set_option maxRecDepth 100000 in
theorem rm_nsp0 (lb pb r : Nat) (v0 v1 vr : Value) (w : World) (hne : lb ≠ pb) (hpp : plainB w pb)
    (hl0 : At w lb 0 v0) (hl1 : At w lb 1 v1) (hl2 : At w lb 2 (.pointer (some ⟨pb, 0, none⟩))) (hp8 : At w pb 8 (.pointer none)) (hp9 : At w pb 9 (.pointer (some ⟨r, 0, none⟩))) (n3 : lb ≠ r) (n4 : r ≠ pb) (hr : At w r 8 vr) :
    Calls Yba.prog 8 #[.pointer (some ⟨lb, 0, none⟩), .pointer (some ⟨pb, 0, none⟩), .int .u8 0] w fun e w' => e = .returned (.tuple #[]) ∧ ∃ k, w' = (rmTo w 0 lb pb none (some r) true).drewN k := by
  have l1 := hl0.lt; have l2 := hp8.lt
  have l4 := hr.lt
  obtain ⟨c0, f0⟩ := hl0
  obtain ⟨c1, f1⟩ := hl1
  obtain ⟨c2, f2⟩ := hl2
  obtain ⟨c3, f3⟩ := hp8
  obtain ⟨c4, f4⟩ := hp9
  obtain ⟨c6, f6⟩ := hr
  go_enter Yba.func8, Yba.ntmps8
  go_wp2
  go_region
  go_wp2
  go_end0
  exact ⟨rfl, 1, rfl⟩

set_option maxHeartbeats 400000 in
set_option maxRecDepth 100000 in
theorem rm_nsp1 (lb pb r : Nat) (v0 v1 vr : Value) (w : World) (hne : lb ≠ pb) (hpp : plainB w pb)
    (hl0 : At w lb 0 v0) (hl1 : At w lb 1 v1) (hl2 : At w lb 2 (.pointer (some ⟨pb, 0, none⟩))) (hp8 : At w pb 10 (.pointer none)) (hp9 : At w pb 11 (.pointer (some ⟨r, 0, none⟩))) (n3 : lb ≠ r) (n4 : r ≠ pb) (hr : At w r 10 vr) :
    Calls Yba.prog 8 #[.pointer (some ⟨lb, 0, none⟩), .pointer (some ⟨pb, 0, none⟩), .int .u8 1] w fun e w' => e = .returned (.tuple #[]) ∧ ∃ k, w' = (rmTo w 1 lb pb none (some r) true).drewN k := by
  have l1 := hl0.lt; have l2 := hp8.lt
  have l4 := hr.lt
  obtain ⟨c0, f0⟩ := hl0
  obtain ⟨c1, f1⟩ := hl1
  obtain ⟨c2, f2⟩ := hl2
  obtain ⟨c3, f3⟩ := hp8
  obtain ⟨c4, f4⟩ := hp9
  obtain ⟨c6, f6⟩ := hr
  go_enter Yba.func8, Yba.ntmps8
  go_wp2
  go_region
  go_wp2
  go_end0
  exact ⟨rfl, 1, rfl⟩

set_option maxHeartbeats 400000 in
set_option maxRecDepth 100000 in
theorem rm_nso0 (lb pb r c : Nat) (v0 v1 vr : Value) (w : World) (hne : lb ≠ pb) (hpp : plainB w pb)
    (hl0 : At w lb 0 v0) (hl1 : At w lb 1 v1) (hl2 : At w lb 2 (.pointer (some ⟨c, 0, none⟩))) (hp8 : At w pb 8 (.pointer none)) (hp9 : At w pb 9 (.pointer (some ⟨r, 0, none⟩))) (n3 : lb ≠ r) (n4 : r ≠ pb) (hr : At w r 8 vr) (n5 : c ≠ pb) (hcp : plainB w c) :
    Calls Yba.prog 8 #[.pointer (some ⟨lb, 0, none⟩), .pointer (some ⟨pb, 0, none⟩), .int .u8 0] w fun e w' => e = .returned (.tuple #[]) ∧ ∃ k, w' = (rmTo w 0 lb pb none (some r) false).drewN k := by
  have l1 := hl0.lt; have l2 := hp8.lt
  have l4 := hr.lt
  have l5 := plainB_lt hcp
  have e5 : decide (c = pb) = false := by simp [n5]
  obtain ⟨c0, f0⟩ := hl0
  obtain ⟨c1, f1⟩ := hl1
  obtain ⟨c2, f2⟩ := hl2
  obtain ⟨c3, f3⟩ := hp8
  obtain ⟨c4, f4⟩ := hp9
  obtain ⟨c6, f6⟩ := hr
  go_enter Yba.func8, Yba.ntmps8
  go_wp2
  go_region
  go_wp2
  go_end0
  exact ⟨rfl, 1, rfl⟩

set_option maxHeartbeats 400000 in
set_option maxRecDepth 100000 in
theorem rm_nso1 (lb pb r c : Nat) (v0 v1 vr : Value) (w : World) (hne : lb ≠ pb) (hpp : plainB w pb)
    (hl0 : At w lb 0 v0) (hl1 : At w lb 1 v1) (hl2 : At w lb 2 (.pointer (some ⟨c, 0, none⟩))) (hp8 : At w pb 10 (.pointer none)) (hp9 : At w pb 11 (.pointer (some ⟨r, 0, none⟩))) (n3 : lb ≠ r) (n4 : r ≠ pb) (hr : At w r 10 vr) (n5 : c ≠ pb) (hcp : plainB w c) :
    Calls Yba.prog 8 #[.pointer (some ⟨lb, 0, none⟩), .pointer (some ⟨pb, 0, none⟩), .int .u8 1] w fun e w' => e = .returned (.tuple #[]) ∧ ∃ k, w' = (rmTo w 1 lb pb none (some r) false).drewN k := by
  have l1 := hl0.lt; have l2 := hp8.lt
  have l4 := hr.lt
  have l5 := plainB_lt hcp
  have e5 : decide (c = pb) = false := by simp [n5]
  obtain ⟨c0, f0⟩ := hl0
  obtain ⟨c1, f1⟩ := hl1
  obtain ⟨c2, f2⟩ := hl2
  obtain ⟨c3, f3⟩ := hp8
  obtain ⟨c4, f4⟩ := hp9
  obtain ⟨c6, f6⟩ := hr
  go_enter Yba.func8, Yba.ntmps8
  go_wp2
  go_region
  go_wp2
  go_end0
  exact ⟨rfl, 1, rfl⟩

set_option maxHeartbeats 400000 in
set_option maxRecDepth 100000 in
theorem rm_snn0 (lb pb q : Nat) (v0 v1 vq : Value) (w : World) (hne : lb ≠ pb) (hpp : plainB w pb)
    (hl0 : At w lb 0 v0) (hl1 : At w lb 1 v1) (hl2 : At w lb 2 (.pointer none)) (hp8 : At w pb 8 (.pointer (some ⟨q, 0, none⟩))) (hp9 : At w pb 9 (.pointer none)) (n1 : lb ≠ q) (n2 : q ≠ pb) (hq : At w q 9 vq) :
    Calls Yba.prog 8 #[.pointer (some ⟨lb, 0, none⟩), .pointer (some ⟨pb, 0, none⟩), .int .u8 0] w fun e w' => e = .returned (.tuple #[]) ∧ ∃ k, w' = (rmTo w 0 lb pb (some q) none false).drewN k := by
  have l1 := hl0.lt; have l2 := hp8.lt
  have l3 := hq.lt
  obtain ⟨c0, f0⟩ := hl0
  obtain ⟨c1, f1⟩ := hl1
  obtain ⟨c2, f2⟩ := hl2
  obtain ⟨c3, f3⟩ := hp8
  obtain ⟨c4, f4⟩ := hp9
  obtain ⟨c5, f5⟩ := hq
  go_enter Yba.func8, Yba.ntmps8
  go_wp2
  go_region
  go_wp2
  go_end0
  exact ⟨rfl, 1, rfl⟩

set_option maxHeartbeats 400000 in
set_option maxRecDepth 100000 in
theorem rm_snn1 (lb pb q : Nat) (v0 v1 vq : Value) (w : World) (hne : lb ≠ pb) (hpp : plainB w pb)
    (hl0 : At w lb 0 v0) (hl1 : At w lb 1 v1) (hl2 : At w lb 2 (.pointer none)) (hp8 : At w pb 10 (.pointer (some ⟨q, 0, none⟩))) (hp9 : At w pb 11 (.pointer none)) (n1 : lb ≠ q) (n2 : q ≠ pb) (hq : At w q 11 vq) :
    Calls Yba.prog 8 #[.pointer (some ⟨lb, 0, none⟩), .pointer (some ⟨pb, 0, none⟩), .int .u8 1] w fun e w' => e = .returned (.tuple #[]) ∧ ∃ k, w' = (rmTo w 1 lb pb (some q) none false).drewN k := by
  have l1 := hl0.lt; have l2 := hp8.lt
  have l3 := hq.lt
  obtain ⟨c0, f0⟩ := hl0
  obtain ⟨c1, f1⟩ := hl1
  obtain ⟨c2, f2⟩ := hl2
  obtain ⟨c3, f3⟩ := hp8
  obtain ⟨c4, f4⟩ := hp9
  obtain ⟨c5, f5⟩ := hq
  go_enter Yba.func8, Yba.ntmps8
  go_wp2
  go_region
  go_wp2
  go_end0
  exact ⟨rfl, 1, rfl⟩

set_option maxHeartbeats 400000 in
set_option maxRecDepth 100000 in
theorem rm_snp0 (lb pb q : Nat) (v0 v1 vq : Value) (w : World) (hne : lb ≠ pb) (hpp : plainB w pb)
    (hl0 : At w lb 0 v0) (hl1 : At w lb 1 v1) (hl2 : At w lb 2 (.pointer (some ⟨pb, 0, none⟩))) (hp8 : At w pb 8 (.pointer (some ⟨q, 0, none⟩))) (hp9 : At w pb 9 (.pointer none)) (n1 : lb ≠ q) (n2 : q ≠ pb) (hq : At w q 9 vq) :
    Calls Yba.prog 8 #[.pointer (some ⟨lb, 0, none⟩), .pointer (some ⟨pb, 0, none⟩), .int .u8 0] w fun e w' => e = .returned (.tuple #[]) ∧ ∃ k, w' = (rmTo w 0 lb pb (some q) none true).drewN k := by
  have l1 := hl0.lt; have l2 := hp8.lt
  have l3 := hq.lt
  obtain ⟨c0, f0⟩ := hl0
  obtain ⟨c1, f1⟩ := hl1
  obtain ⟨c2, f2⟩ := hl2
  obtain ⟨c3, f3⟩ := hp8
  obtain ⟨c4, f4⟩ := hp9
  obtain ⟨c5, f5⟩ := hq
  go_enter Yba.func8, Yba.ntmps8
  go_wp2
  go_region
  go_wp2
  go_end0
  exact ⟨rfl, 1, rfl⟩

set_option maxHeartbeats 400000 in
set_option maxRecDepth 100000 in
theorem rm_snp1 (lb pb q : Nat) (v0 v1 vq : Value) (w : World) (hne : lb ≠ pb) (hpp : plainB w pb)
    (hl0 : At w lb 0 v0) (hl1 : At w lb 1 v1) (hl2 : At w lb 2 (.pointer (some ⟨pb, 0, none⟩))) (hp8 : At w pb 10 (.pointer (some ⟨q, 0, none⟩))) (hp9 : At w pb 11 (.pointer none)) (n1 : lb ≠ q) (n2 : q ≠ pb) (hq : At w q 11 vq) :
    Calls Yba.prog 8 #[.pointer (some ⟨lb, 0, none⟩), .pointer (some ⟨pb, 0, none⟩), .int .u8 1] w fun e w' => e = .returned (.tuple #[]) ∧ ∃ k, w' = (rmTo w 1 lb pb (some q) none true).drewN k := by
  have l1 := hl0.lt; have l2 := hp8.lt
  have l3 := hq.lt
  obtain ⟨c0, f0⟩ := hl0
  obtain ⟨c1, f1⟩ := hl1
  obtain ⟨c2, f2⟩ := hl2
  obtain ⟨c3, f3⟩ := hp8
  obtain ⟨c4, f4⟩ := hp9
  obtain ⟨c5, f5⟩ := hq
  go_enter Yba.func8, Yba.ntmps8
  go_wp2
  go_region
  go_wp2
  go_end0
  exact ⟨rfl, 1, rfl⟩

set_option maxHeartbeats 400000 in
set_option maxRecDepth 100000 in
theorem rm_sno0 (lb pb q c : Nat) (v0 v1 vq : Value) (w : World) (hne : lb ≠ pb) (hpp : plainB w pb)
    (hl0 : At w lb 0 v0) (hl1 : At w lb 1 v1) (hl2 : At w lb 2 (.pointer (some ⟨c, 0, none⟩))) (hp8 : At w pb 8 (.pointer (some ⟨q, 0, none⟩))) (hp9 : At w pb 9 (.pointer none)) (n1 : lb ≠ q) (n2 : q ≠ pb) (hq : At w q 9 vq) (n5 : c ≠ pb) (hcp : plainB w c) :
    Calls Yba.prog 8 #[.pointer (some ⟨lb, 0, none⟩), .pointer (some ⟨pb, 0, none⟩), .int .u8 0] w fun e w' => e = .returned (.tuple #[]) ∧ ∃ k, w' = (rmTo w 0 lb pb (some q) none false).drewN k := by
  have l1 := hl0.lt; have l2 := hp8.lt
  have l3 := hq.lt
  have l5 := plainB_lt hcp
  have e5 : decide (c = pb) = false := by simp [n5]
  obtain ⟨c0, f0⟩ := hl0
  obtain ⟨c1, f1⟩ := hl1
  obtain ⟨c2, f2⟩ := hl2
  obtain ⟨c3, f3⟩ := hp8
  obtain ⟨c4, f4⟩ := hp9
  obtain ⟨c5, f5⟩ := hq
  go_enter Yba.func8, Yba.ntmps8
  go_wp2
  go_region
  go_wp2
  go_end0
  exact ⟨rfl, 1, rfl⟩

set_option maxHeartbeats 400000 in
set_option maxRecDepth 100000 in
theorem rm_sno1 (lb pb q c : Nat) (v0 v1 vq : Value) (w : World) (hne : lb ≠ pb) (hpp : plainB w pb)
    (hl0 : At w lb 0 v0) (hl1 : At w lb 1 v1) (hl2 : At w lb 2 (.pointer (some ⟨c, 0, none⟩))) (hp8 : At w pb 10 (.pointer (some ⟨q, 0, none⟩))) (hp9 : At w pb 11 (.pointer none)) (n1 : lb ≠ q) (n2 : q ≠ pb) (hq : At w q 11 vq) (n5 : c ≠ pb) (hcp : plainB w c) :
    Calls Yba.prog 8 #[.pointer (some ⟨lb, 0, none⟩), .pointer (some ⟨pb, 0, none⟩), .int .u8 1] w fun e w' => e = .returned (.tuple #[]) ∧ ∃ k, w' = (rmTo w 1 lb pb (some q) none false).drewN k := by
  have l1 := hl0.lt; have l2 := hp8.lt
  have l3 := hq.lt
  have l5 := plainB_lt hcp
  have e5 : decide (c = pb) = false := by simp [n5]
  obtain ⟨c0, f0⟩ := hl0
  obtain ⟨c1, f1⟩ := hl1
  obtain ⟨c2, f2⟩ := hl2
  obtain ⟨c3, f3⟩ := hp8
  obtain ⟨c4, f4⟩ := hp9
  obtain ⟨c5, f5⟩ := hq
  go_enter Yba.func8, Yba.ntmps8
  go_wp2
  go_region
  go_wp2
  go_end0
  exact ⟨rfl, 1, rfl⟩

set_option maxHeartbeats 400000 in
set_option maxRecDepth 100000 in
theorem rm_ssn0 (lb pb q r : Nat) (v0 v1 vq vr : Value) (w : World) (hne : lb ≠ pb) (hpp : plainB w pb)
    (hl0 : At w lb 0 v0) (hl1 : At w lb 1 v1) (hl2 : At w lb 2 (.pointer none)) (hp8 : At w pb 8 (.pointer (some ⟨q, 0, none⟩))) (hp9 : At w pb 9 (.pointer (some ⟨r, 0, none⟩))) (n1 : lb ≠ q) (n2 : q ≠ pb) (hq : At w q 9 vq) (n3 : lb ≠ r) (n4 : r ≠ pb) (hr : At w r 8 vr) :
    Calls Yba.prog 8 #[.pointer (some ⟨lb, 0, none⟩), .pointer (some ⟨pb, 0, none⟩), .int .u8 0] w fun e w' => e = .returned (.tuple #[]) ∧ ∃ k, w' = (rmTo w 0 lb pb (some q) (some r) false).drewN k := by
  have l1 := hl0.lt; have l2 := hp8.lt
  have l3 := hq.lt
  have l4 := hr.lt
  obtain ⟨c0, f0⟩ := hl0
  obtain ⟨c1, f1⟩ := hl1
  obtain ⟨c2, f2⟩ := hl2
  obtain ⟨c3, f3⟩ := hp8
  obtain ⟨c4, f4⟩ := hp9
  obtain ⟨c5, f5⟩ := hq
  obtain ⟨c6, f6⟩ := hr
  go_enter Yba.func8, Yba.ntmps8
  go_wp2
  go_region
  go_wp2
  go_region
  go_wp2
  go_end0
  exact ⟨rfl, 2, rfl⟩

set_option maxHeartbeats 400000 in
set_option maxRecDepth 100000 in
theorem rm_ssn1 (lb pb q r : Nat) (v0 v1 vq vr : Value) (w : World) (hne : lb ≠ pb) (hpp : plainB w pb)
    (hl0 : At w lb 0 v0) (hl1 : At w lb 1 v1) (hl2 : At w lb 2 (.pointer none)) (hp8 : At w pb 10 (.pointer (some ⟨q, 0, none⟩))) (hp9 : At w pb 11 (.pointer (some ⟨r, 0, none⟩))) (n1 : lb ≠ q) (n2 : q ≠ pb) (hq : At w q 11 vq) (n3 : lb ≠ r) (n4 : r ≠ pb) (hr : At w r 10 vr) :
    Calls Yba.prog 8 #[.pointer (some ⟨lb, 0, none⟩), .pointer (some ⟨pb, 0, none⟩), .int .u8 1] w fun e w' => e = .returned (.tuple #[]) ∧ ∃ k, w' = (rmTo w 1 lb pb (some q) (some r) false).drewN k := by
  have l1 := hl0.lt; have l2 := hp8.lt
  have l3 := hq.lt
  have l4 := hr.lt
  obtain ⟨c0, f0⟩ := hl0
  obtain ⟨c1, f1⟩ := hl1
  obtain ⟨c2, f2⟩ := hl2
  obtain ⟨c3, f3⟩ := hp8
  obtain ⟨c4, f4⟩ := hp9
  obtain ⟨c5, f5⟩ := hq
  obtain ⟨c6, f6⟩ := hr
  go_enter Yba.func8, Yba.ntmps8
  go_wp2
  go_region
  go_wp2
  go_region
  go_wp2
  go_end0
  exact ⟨rfl, 2, rfl⟩

set_option maxHeartbeats 400000 in
set_option maxRecDepth 100000 in
theorem rm_ssp0 (lb pb q r : Nat) (v0 v1 vq vr : Value) (w : World) (hne : lb ≠ pb) (hpp : plainB w pb)
    (hl0 : At w lb 0 v0) (hl1 : At w lb 1 v1) (hl2 : At w lb 2 (.pointer (some ⟨pb, 0, none⟩))) (hp8 : At w pb 8 (.pointer (some ⟨q, 0, none⟩))) (hp9 : At w pb 9 (.pointer (some ⟨r, 0, none⟩))) (n1 : lb ≠ q) (n2 : q ≠ pb) (hq : At w q 9 vq) (n3 : lb ≠ r) (n4 : r ≠ pb) (hr : At w r 8 vr) :
    Calls Yba.prog 8 #[.pointer (some ⟨lb, 0, none⟩), .pointer (some ⟨pb, 0, none⟩), .int .u8 0] w fun e w' => e = .returned (.tuple #[]) ∧ ∃ k, w' = (rmTo w 0 lb pb (some q) (some r) true).drewN k := by
  have l1 := hl0.lt; have l2 := hp8.lt
  have l3 := hq.lt
  have l4 := hr.lt
  obtain ⟨c0, f0⟩ := hl0
  obtain ⟨c1, f1⟩ := hl1
  obtain ⟨c2, f2⟩ := hl2
  obtain ⟨c3, f3⟩ := hp8
  obtain ⟨c4, f4⟩ := hp9
  obtain ⟨c5, f5⟩ := hq
  obtain ⟨c6, f6⟩ := hr
  go_enter Yba.func8, Yba.ntmps8
  go_wp2
  go_region
  go_wp2
  go_region
  go_wp2
  go_end0
  exact ⟨rfl, 2, rfl⟩

set_option maxHeartbeats 400000 in
set_option maxRecDepth 100000 in
theorem rm_ssp1 (lb pb q r : Nat) (v0 v1 vq vr : Value) (w : World) (hne : lb ≠ pb) (hpp : plainB w pb)
    (hl0 : At w lb 0 v0) (hl1 : At w lb 1 v1) (hl2 : At w lb 2 (.pointer (some ⟨pb, 0, none⟩))) (hp8 : At w pb 10 (.pointer (some ⟨q, 0, none⟩))) (hp9 : At w pb 11 (.pointer (some ⟨r, 0, none⟩))) (n1 : lb ≠ q) (n2 : q ≠ pb) (hq : At w q 11 vq) (n3 : lb ≠ r) (n4 : r ≠ pb) (hr : At w r 10 vr) :
    Calls Yba.prog 8 #[.pointer (some ⟨lb, 0, none⟩), .pointer (some ⟨pb, 0, none⟩), .int .u8 1] w fun e w' => e = .returned (.tuple #[]) ∧ ∃ k, w' = (rmTo w 1 lb pb (some q) (some r) true).drewN k := by
  have l1 := hl0.lt; have l2 := hp8.lt
  have l3 := hq.lt
  have l4 := hr.lt
  obtain ⟨c0, f0⟩ := hl0
  obtain ⟨c1, f1⟩ := hl1
  obtain ⟨c2, f2⟩ := hl2
  obtain ⟨c3, f3⟩ := hp8
  obtain ⟨c4, f4⟩ := hp9
  obtain ⟨c5, f5⟩ := hq
  obtain ⟨c6, f6⟩ := hr
  go_enter Yba.func8, Yba.ntmps8
  go_wp2
  go_region
  go_wp2
  go_region
  go_wp2
  go_end0
  exact ⟨rfl, 2, rfl⟩

set_option maxHeartbeats 400000 in
set_option maxRecDepth 100000 in
theorem rm_sso0 (lb pb q r c : Nat) (v0 v1 vq vr : Value) (w : World) (hne : lb ≠ pb) (hpp : plainB w pb)
    (hl0 : At w lb 0 v0) (hl1 : At w lb 1 v1) (hl2 : At w lb 2 (.pointer (some ⟨c, 0, none⟩))) (hp8 : At w pb 8 (.pointer (some ⟨q, 0, none⟩))) (hp9 : At w pb 9 (.pointer (some ⟨r, 0, none⟩))) (n1 : lb ≠ q) (n2 : q ≠ pb) (hq : At w q 9 vq) (n3 : lb ≠ r) (n4 : r ≠ pb) (hr : At w r 8 vr) (n5 : c ≠ pb) (hcp : plainB w c) :
    Calls Yba.prog 8 #[.pointer (some ⟨lb, 0, none⟩), .pointer (some ⟨pb, 0, none⟩), .int .u8 0] w fun e w' => e = .returned (.tuple #[]) ∧ ∃ k, w' = (rmTo w 0 lb pb (some q) (some r) false).drewN k := by
  have l1 := hl0.lt; have l2 := hp8.lt
  have l3 := hq.lt
  have l4 := hr.lt
  have l5 := plainB_lt hcp
  have e5 : decide (c = pb) = false := by simp [n5]
  obtain ⟨c0, f0⟩ := hl0
  obtain ⟨c1, f1⟩ := hl1
  obtain ⟨c2, f2⟩ := hl2
  obtain ⟨c3, f3⟩ := hp8
  obtain ⟨c4, f4⟩ := hp9
  obtain ⟨c5, f5⟩ := hq
  obtain ⟨c6, f6⟩ := hr
  go_enter Yba.func8, Yba.ntmps8
  go_wp2
  go_region
  go_wp2
  go_region
  go_wp2
  go_end0
  exact ⟨rfl, 2, rfl⟩

set_option maxHeartbeats 400000 in
set_option maxRecDepth 100000 in
theorem rm_sso1 (lb pb q r c : Nat) (v0 v1 vq vr : Value) (w : World) (hne : lb ≠ pb) (hpp : plainB w pb)
    (hl0 : At w lb 0 v0) (hl1 : At w lb 1 v1) (hl2 : At w lb 2 (.pointer (some ⟨c, 0, none⟩))) (hp8 : At w pb 10 (.pointer (some ⟨q, 0, none⟩))) (hp9 : At w pb 11 (.pointer (some ⟨r, 0, none⟩))) (n1 : lb ≠ q) (n2 : q ≠ pb) (hq : At w q 11 vq) (n3 : lb ≠ r) (n4 : r ≠ pb) (hr : At w r 10 vr) (n5 : c ≠ pb) (hcp : plainB w c) :
    Calls Yba.prog 8 #[.pointer (some ⟨lb, 0, none⟩), .pointer (some ⟨pb, 0, none⟩), .int .u8 1] w fun e w' => e = .returned (.tuple #[]) ∧ ∃ k, w' = (rmTo w 1 lb pb (some q) (some r) false).drewN k := by
  have l1 := hl0.lt; have l2 := hp8.lt
  have l3 := hq.lt
  have l4 := hr.lt
  have l5 := plainB_lt hcp
  have e5 : decide (c = pb) = false := by simp [n5]
  obtain ⟨c0, f0⟩ := hl0
  obtain ⟨c1, f1⟩ := hl1
  obtain ⟨c2, f2⟩ := hl2
  obtain ⟨c3, f3⟩ := hp8
  obtain ⟨c4, f4⟩ := hp9
  obtain ⟨c5, f5⟩ := hq
  obtain ⟨c6, f6⟩ := hr
  go_enter Yba.func8, Yba.ntmps8
  go_wp2
  go_region
  go_wp2
  go_region
  go_wp2
  go_end0
  exact ⟨rfl, 2, rfl⟩

theorem rm_any (s lb pb : Nat) (pv nx lc : Option Nat) (v0 v1 : Value) (w : World) (hs : s = 0 ∨ s = 1) (hne : lb ≠ pb) (hpp : plainB w pb)
    (hl0 : At w lb 0 v0) (hl1 : At w lb 1 v1) (hl2 : At w lb 2 (ptr lc)) (hlc : ∀ q, lc = some q → plainB w q)
    (hp8 : At w pb (8 + 2 * s) (ptr pv)) (hp9 : At w pb (9 + 2 * s) (ptr nx))
    (hq : ∀ q, pv = some q → lb ≠ q ∧ q ≠ pb ∧ ∃ v, At w q (9 + 2 * s) v) (hr : ∀ q, nx = some q → lb ≠ q ∧ q ≠ pb ∧ ∃ v, At w q (8 + 2 * s) v) :
    Calls Yba.prog 8 #[.pointer (some ⟨lb, 0, none⟩), .pointer (some ⟨pb, 0, none⟩), .int .u8 s] w fun e w' => e = .returned (.tuple #[]) ∧ ∃ k, w' = (rmTo w s lb pb pv nx (decide (lc = some pb))).drewN k := by
  rcases hs with rfl | rfl
  · cases pv with
    | none =>
      cases nx with
      | none =>
        cases lc with
        | none => exact rm_nnn0 lb pb v0 v1 w hne hpp hl0 hl1 hl2 hp8 hp9
        | some c =>
          by_cases e : c = pb
          · subst e
            simpa using rm_nnp0 lb c v0 v1 w hne hpp hl0 hl1 hl2 hp8 hp9
          · simpa [e] using rm_nno0 lb pb c v0 v1 w hne hpp hl0 hl1 hl2 hp8 hp9 e (hlc c rfl)
      | some r =>
        obtain ⟨n3, n4, vr, hr8⟩ := hr r rfl
        cases lc with
        | none => exact rm_nsn0 lb pb r v0 v1 vr w hne hpp hl0 hl1 hl2 hp8 hp9 n3 n4 hr8
        | some c =>
          by_cases e : c = pb
          · subst e
            simpa using rm_nsp0 lb c r v0 v1 vr w hne hpp hl0 hl1 hl2 hp8 hp9 n3 n4 hr8
          · simpa [e] using rm_nso0 lb pb r c v0 v1 vr w hne hpp hl0 hl1 hl2 hp8 hp9 n3 n4 hr8 e (hlc c rfl)
    | some q =>
      obtain ⟨n1, n2, vq, hq9⟩ := hq q rfl
      cases nx with
      | none =>
        cases lc with
        | none => exact rm_snn0 lb pb q v0 v1 vq w hne hpp hl0 hl1 hl2 hp8 hp9 n1 n2 hq9
        | some c =>
          by_cases e : c = pb
          · subst e
            simpa using rm_snp0 lb c q v0 v1 vq w hne hpp hl0 hl1 hl2 hp8 hp9 n1 n2 hq9
          · simpa [e] using rm_sno0 lb pb q c v0 v1 vq w hne hpp hl0 hl1 hl2 hp8 hp9 n1 n2 hq9 e (hlc c rfl)
      | some r =>
        obtain ⟨n3, n4, vr, hr8⟩ := hr r rfl
        cases lc with
        | none => exact rm_ssn0 lb pb q r v0 v1 vq vr w hne hpp hl0 hl1 hl2 hp8 hp9 n1 n2 hq9 n3 n4 hr8
        | some c =>
          by_cases e : c = pb
          · subst e
            simpa using rm_ssp0 lb c q r v0 v1 vq vr w hne hpp hl0 hl1 hl2 hp8 hp9 n1 n2 hq9 n3 n4 hr8
          · simpa [e] using rm_sso0 lb pb q r c v0 v1 vq vr w hne hpp hl0 hl1 hl2 hp8 hp9 n1 n2 hq9 n3 n4 hr8 e (hlc c rfl)
  · cases pv with
    | none =>
      cases nx with
      | none =>
        cases lc with
        | none => exact rm_nnn1 lb pb v0 v1 w hne hpp hl0 hl1 hl2 hp8 hp9
        | some c =>
          by_cases e : c = pb
          · subst e
            simpa using rm_nnp1 lb c v0 v1 w hne hpp hl0 hl1 hl2 hp8 hp9
          · simpa [e] using rm_nno1 lb pb c v0 v1 w hne hpp hl0 hl1 hl2 hp8 hp9 e (hlc c rfl)
      | some r =>
        obtain ⟨n3, n4, vr, hr8⟩ := hr r rfl
        cases lc with
        | none => exact rm_nsn1 lb pb r v0 v1 vr w hne hpp hl0 hl1 hl2 hp8 hp9 n3 n4 hr8
        | some c =>
          by_cases e : c = pb
          · subst e
            simpa using rm_nsp1 lb c r v0 v1 vr w hne hpp hl0 hl1 hl2 hp8 hp9 n3 n4 hr8
          · simpa [e] using rm_nso1 lb pb r c v0 v1 vr w hne hpp hl0 hl1 hl2 hp8 hp9 n3 n4 hr8 e (hlc c rfl)
    | some q =>
      obtain ⟨n1, n2, vq, hq9⟩ := hq q rfl
      cases nx with
      | none =>
        cases lc with
        | none => exact rm_snn1 lb pb q v0 v1 vq w hne hpp hl0 hl1 hl2 hp8 hp9 n1 n2 hq9
        | some c =>
          by_cases e : c = pb
          · subst e
            simpa using rm_snp1 lb c q v0 v1 vq w hne hpp hl0 hl1 hl2 hp8 hp9 n1 n2 hq9
          · simpa [e] using rm_sno1 lb pb q c v0 v1 vq w hne hpp hl0 hl1 hl2 hp8 hp9 n1 n2 hq9 e (hlc c rfl)
      | some r =>
        obtain ⟨n3, n4, vr, hr8⟩ := hr r rfl
        cases lc with
        | none => exact rm_ssn1 lb pb q r v0 v1 vq vr w hne hpp hl0 hl1 hl2 hp8 hp9 n1 n2 hq9 n3 n4 hr8
        | some c =>
          by_cases e : c = pb
          · subst e
            simpa using rm_ssp1 lb c q r v0 v1 vq vr w hne hpp hl0 hl1 hl2 hp8 hp9 n1 n2 hq9 n3 n4 hr8
          · simpa [e] using rm_sso1 lb pb q r c v0 v1 vq vr w hne hpp hl0 hl1 hl2 hp8 hp9 n1 n2 hq9 n3 n4 hr8 e (hlc c rfl)

end Go.Proofs.Ybulkxos
