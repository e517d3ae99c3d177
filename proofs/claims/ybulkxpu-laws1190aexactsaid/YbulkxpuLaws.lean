/-
  THE WALKS of LawS1190AExact (3) and LawS1190ALeaveUnlock (4).
-/
import Derived.Test.YbulkxpuLook
namespace Go.Proofs.Ybulkxpu
open Go.RowKit
set_option linter.unusedVariables false

/-- the zero proc: what of it is asked -/
theorem zero44 : ∃ cs : Array Value, (∀ w, (zeroValue 44).run Yba.prog w = .ok (.agg cs) w) ∧ cs[10]? = some (.int .u32 0) ∧ cs[11]? = some (.int .u32 0) ∧ cs[270]? = some (.int .u64 0) :=
  ⟨#[.int .i64 0, .nilFunc, .int .i64 0, .int .u64 0, .int .u64 0, .int .i64 0, .int .u32 0, .int .i64 0, .bool false, .int .u64 0, .int .u32 0, .int .u32 0] ++ Array.replicate 256 .nilIface ++
    #[.int .u32 0, .int .i32 0, .int .u64 0, .int .u64 0, .int .i64 0, .int .u64 0, .int .i64 0, .int .u64 0], fun w => by kernel_rfl, by kernel_rfl, by kernel_rfl, by kernel_rfl⟩

/-- the proc in memory: its three words; nothing that was there has turned -/
structure PS (w w' : World) (S h t : Int) : Prop where
  s : w'.cell? ⟨w.heap.size, 270, none⟩ = some (.int .u64 S)
  h : w'.cell? ⟨w.heap.size, 10, none⟩ = some (.int .u32 h)
  t : w'.cell? ⟨w.heap.size, 11, none⟩ = some (.int .u32 t)
  fs : w'.frozen? ⟨w.heap.size, 270, none⟩ = false
  fh : w'.frozen? ⟨w.heap.size, 10, none⟩ = false
  ft : w'.frozen? ⟨w.heap.size, 11, none⟩ = false
  bel : Below w.heap.size w w'

theorem PS.start (w : World) (cs : Array Value) (z10 : cs[10]? = some (.int .u32 0)) (z11 : cs[11]? = some (.int .u32 0)) (z270 : cs[270]? = some (.int .u64 0)) : PS w (w.alloc (.cells cs 44)) 0 0 0 :=
  ⟨by rw [World.cell?_alloc_new, z270], by rw [World.cell?_alloc_new, z10], by rw [World.cell?_alloc_new, z11], World.frozen?_alloc_new _ _ _ _, World.frozen?_alloc_new _ _ _ _, World.frozen?_alloc_new _ _ _ _, (Below.refl _ _).alloc (Nat.le_refl _) _⟩
theorem PS.setS {w w' : World} {S h t : Int} (p : PS w w' S h t) (x : Int) : PS w (w'.setCell ⟨w.heap.size, 270, none⟩ (.int .u64 x)) x h t :=
  ⟨World.cell?_setCell_same _ _ _ p.s, (World.cell?_setCell_other _ _ _ _ (by simp)).trans p.h, (World.cell?_setCell_other _ _ _ _ (by simp)).trans p.t, by simp [p.fs], by simp [p.fh], by simp [p.ft], p.bel.setCell (Nat.le_refl _) _⟩
theorem PS.setH {w w' : World} {S h t : Int} (p : PS w w' S h t) (x : Int) : PS w (w'.setCell ⟨w.heap.size, 10, none⟩ (.int .u32 x)) S x t :=
  ⟨(World.cell?_setCell_other _ _ _ _ (by simp)).trans p.s, World.cell?_setCell_same _ _ _ p.h, (World.cell?_setCell_other _ _ _ _ (by simp)).trans p.t, by simp [p.fs], by simp [p.fh], by simp [p.ft], p.bel.setCell (Nat.le_refl _) _⟩
theorem PS.setT {w w' : World} {S h t : Int} (p : PS w w' S h t) (x : Int) : PS w (w'.setCell ⟨w.heap.size, 11, none⟩ (.int .u32 x)) S h x :=
  ⟨(World.cell?_setCell_other _ _ _ _ (by simp)).trans p.s, (World.cell?_setCell_other _ _ _ _ (by simp)).trans p.h, World.cell?_setCell_same _ _ _ p.t, by simp [p.fs], by simp [p.fh], by simp [p.ft], p.bel.setCell (Nat.le_refl _) _⟩

theorem and1' (S : Nat) (h : S < 18446744073709551616) : bits .and .u64 ((S : Int) / 4) 1 = ((S / 4 % 2 : Nat) : Int) := by
  have := and1 (S / 4) (by omega)
  rwa [Int.natCast_ediv] at this

set_option maxHeartbeats 1000000 in
set_option maxRecDepth 100000 in
theorem exact_core (S : Nat) (h t : Int) (w : World) (hS : S < 18446744073709551616) (h0 : 0 ≤ h) (h1 : h ≤ 4294967295) (t0 : 0 ≤ t) (t1 : t ≤ 4294967295) :
    Calls Yba.prog 3 #[.int .u64 S, .int .u32 h, .int .u32 t] w fun e w' => e = .returned (.bool true) ∧ Below w.heap.size w w' := by
  obtain ⟨cs, hz, z10, z11, z270⟩ := zero44
  have P0 := PS.start w cs z10 z11 z270
  clear z10 z11 z270
  go_enter Yba.func3, Yba.ntmps3
  go_wp2_with fail
  clear hz
  generalize w.alloc (.cells cs 44) = w0 at P0 ⊢
  generalize Value.agg cs = big
  refine (store64 _ _ _ _ _ P0.s P0.fs).mono ?_
  rintro e w1 ⟨rfl, hw⟩
  have P1 := P0.setS S
  rw [hw] at P1
  clear hw P0
  go_wp2_with fail
  refine (store32 _ _ _ _ _ P1.h P1.fh).mono ?_
  rintro e w2 ⟨rfl, hw⟩
  have P2 := P1.setH h
  rw [hw] at P2
  clear hw P1
  go_wp2_with fail
  refine (store32 _ _ _ _ _ P2.t P2.ft).mono ?_
  rintro e w3 ⟨rfl, hw⟩
  have P3 := P2.setT t
  rw [hw] at P3
  clear hw P2
  go_wp2_with fail
  refine (look_any _ S h t _ hS h0 h1 t0 t1 P3.s P3.h P3.t).mono ?_
  rintro e w4 ⟨rfl, rfl⟩
  go_wp2_with fail
  refine (want_any h t _ h0 h1 t0 t1).mono ?_
  rintro e w4 ⟨rfl, rfl⟩
  have hrv := rv_bd h t
  have HB : Hid _ := P3.bel
  clear P3
  by_cases hb : S / 4 % 2 = 1
  · have eq : queuedOf S h t = rv h t + 1 := by unfold queuedOf; rw [if_pos hb]
    rw [eq]
    have hbit : (bits .and .u64 ((S : Int) / 4) 1 == 1) = true := by rw [and1' S hS, hb]; rfl
    clear eq hb
    go_wp2
    go_ret
    exact ⟨ret_bool (by simp), HB.out⟩
  · have eq : queuedOf S h t = rv h t := by unfold queuedOf; rw [if_neg hb]
    rw [eq]
    have hbit : (bits .and .u64 ((S : Int) / 4) 1 == 1) = false := by rw [and1' S hS, show S / 4 % 2 = 0 by omega]; rfl
    clear eq hb
    go_wp2
    go_ret
    exact ⟨ret_bool (by simp), HB.out⟩

set_option maxHeartbeats 1000000 in
set_option maxRecDepth 100000 in
theorem leaveUnlock_core (S : Nat) (h t : Int) (w : World) (hS : S < 18446744073709551616) (h0 : 0 ≤ h) (h1 : h ≤ 4294967295) (t0 : 0 ≤ t) (t1 : t ≤ 4294967295) :
    Calls Yba.prog 4 #[.int .u64 S, .int .u32 h, .int .u32 t] w fun e w' => e = .returned (.bool true) ∧ Below w.heap.size w w' := by
  obtain ⟨cs, hz, z10, z11, z270⟩ := zero44
  have P0 := PS.start w cs z10 z11 z270
  clear z10 z11 z270
  obtain ⟨Q, hQ⟩ : ∃ Q, Q = S / 4 * 4 := ⟨_, rfl⟩
  have e1 := andNot3 S hS
  rw [← hQ] at e1
  have e2 := or1 Q (by omega) (by omega)
  have q0 : queuedOf Q h t = queuedOf S h t := by unfold queuedOf; rw [hQ, show S / 4 * 4 / 4 = S / 4 by omega]
  have q1 : queuedOf ((Q + 1) / 8 * 8 + 5) h t = rv h t + 1 := by unfold queuedOf; rw [if_pos (by omega)]
  have m0 : ((Q : Int) % 4 != 0) = false := by simp; omega
  have m1 : ((((Q + 1) / 8 * 8 + 5 : Nat) : Int) % 4 != 0) = true := by simp; omega
  have HQ : Hid (Q ≤ 18446744073709551612 ∧ Q % 4 = 0 ∧ Q = S / 4 * 4 ∧ queuedOf Q h t = queuedOf S h t ∧ queuedOf ((Q + 1) / 8 * 8 + 5) h t = rv h t + 1 ∧ ((Q : Int) % 4 != 0) = false ∧ ((((Q + 1) / 8 * 8 + 5 : Nat) : Int) % 4 != 0) = true) := ⟨by omega, by omega, hQ, q0, q1, m0, m1⟩
  clear hQ q0 q1 m0 m1
  go_enter Yba.func4, Yba.ntmps4
  go_wp2_with fail
  clear hz
  generalize w.alloc (.cells cs 44) = w0 at P0 ⊢
  generalize Value.agg cs = big
  refine (store64 _ _ _ _ _ P0.s P0.fs).mono ?_
  rintro e w1 ⟨rfl, hw⟩
  have P1 := P0.setS S
  rw [hw] at P1
  clear hw P0
  go_wp2_with fail
  refine (store32 _ _ _ _ _ P1.h P1.fh).mono ?_
  rintro e w2 ⟨rfl, hw⟩
  have P2 := P1.setH h
  rw [hw] at P2
  clear hw P1
  go_wp2_with fail
  refine (store32 _ _ _ _ _ P2.t P2.ft).mono ?_
  rintro e w3 ⟨rfl, hw⟩
  have P3 := P2.setT t
  rw [hw] at P3
  clear hw P2
  go_wp2_with fail
  refine (look_any _ S h t _ hS h0 h1 t0 t1 P3.s P3.h P3.t).mono ?_
  rintro e w4 ⟨rfl, rfl⟩
  go_wp2_with fail
  refine (leave_any _ S _ hS P3.s P3.fs).mono ?_
  rintro e w5 ⟨rfl, hw⟩
  have P5 := P3.setS ((S / 4 * 4 : Nat) : Int)
  rw [hw, ← HQ.out.2.2.1] at P5
  clear hw P3
  go_wp2_with fail
  refine (look_any _ Q h t _ (by have := HQ.out.1; omega) h0 h1 t0 t1 P5.s P5.h P5.t).mono ?_
  rintro e w6 ⟨rfl, rfl⟩
  rw [HQ.out.2.2.2.1, HQ.out.2.2.2.2.2.1]
  generalize queuedOf S h t = q
  have hne : (q != q) = false := by simp
  go_wp2_with fail
  refine (unlock_any _ (Q + 1) _ _ (by have := HQ.out.1; omega) (by have := HQ.out.2.1; omega) P5.s P5.fs).mono ?_
  rintro e w7 ⟨⟨r, rfl⟩, hw⟩
  have P7 := P5.setS (((Q + 1) / 8 * 8 + 5 : Nat) : Int)
  rw [hw] at P7
  clear hw P5
  go_wp2_with fail
  refine (look_any _ ((Q + 1) / 8 * 8 + 5) h t _ (by have := HQ.out.1; omega) h0 h1 t0 t1 P7.s P7.h P7.t).mono ?_
  rintro e w8 ⟨rfl, rfl⟩
  rw [HQ.out.2.2.2.2.1, HQ.out.2.2.2.2.2.2]
  have hrv := rv_bd h t
  have HB : Hid _ := P7.bel
  clear P7
  go_wp2_with fail
  refine (want_any h t _ h0 h1 t0 t1).mono ?_
  rintro e w9 ⟨rfl, rfl⟩
  go_wp2
  go_ret
  exact ⟨ret_bool (by simp), HB.out⟩
end Go.Proofs.Ybulkxpu
