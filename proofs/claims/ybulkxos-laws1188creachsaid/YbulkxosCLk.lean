/-
  THE LINKS of an 'unvisited' record, plainly; and the walks of visit (14), from (16), newUnvisited (18), conflicts (15).
-/
import Derived.Test.YbulkxosRows
import Derived.WalkKit
import Derived.WalkSpells
import Derived.WalkLawsBesides
import Derived.Deep.OwnRows
import Derived.Deep.Draws
import Derived.BigQuiet
import Derived.Deep.QuietTactic
namespace Go.Proofs.Ybulkxos
open Go.RowKit
set_option linter.unusedVariables false
set_option linter.unusedSimpArgs false

/-- L is a record of m entries of which those in V are visited. -/
structure LinkOk (m : Nat) (V : Nat → Prop) (L : Nat → Nat) : Prop where
  lt : ∀ i, i ≤ m → i ≤ L i ∧ L i ≤ m
  un : ∀ i, i < m → ¬ V i → L i = i
  vis : ∀ i, i < m → V i → i < L i
  skip : ∀ i j, i ≤ m → i ≤ j → j < L i → V j

theorem LinkOk.start (m : Nat) (V : Nat → Prop) (h : ∀ i, i < m → ¬ V i) : LinkOk m V (fun i => i) :=
  ⟨fun i hi => ⟨Nat.le_refl _, hi⟩, fun _ _ _ => rfl, fun i hi hv => absurd hv (h i hi), fun i j _ h1 h2 => absurd h2 (by omega)⟩

theorem LinkOk.congr {m : Nat} {V V' : Nat → Prop} {L : Nat → Nat} (h : LinkOk m V L) (e : ∀ i, i < m → (V i ↔ V' i)) : LinkOk m V' L :=
  ⟨h.lt, fun i hi hn => h.un i hi (fun hv => hn ((e i hi).1 hv)), fun i hi hv => h.vis i hi ((e i hi).2 hv), fun i j hi h1 h2 => (e j (by have := (h.lt i hi).2; omega)).1 (h.skip i j hi h1 h2)⟩

/-- 'visit(i)' -/
theorem LinkOk.visit {m : Nat} {V : Nat → Prop} {L : Nat → Nat} (h : LinkOk m V L) (i : Nat) (hi : i < m) : LinkOk m (fun j => V j ∨ j = i) (fun j => if j = i then i + 1 else L j) := by
  refine ⟨fun j hj => ?_, fun j hj hn => ?_, fun j hj hv => ?_, fun j k hj h1 h2 => ?_⟩
  · by_cases e : j = i
    · rw [if_pos e]; omega
    · rw [if_neg e]; exact h.lt j hj
  · rw [if_neg (fun e => hn (.inr e))]
    exact h.un j hj (fun hv => hn (.inl hv))
  · by_cases e : j = i
    · rw [if_pos e]; omega
    · rw [if_neg e]
      exact h.vis j hj (hv.resolve_right e)
  · by_cases e : j = i
    · rw [if_pos e] at h2
      exact .inr (by omega)
    · rw [if_neg e] at h2
      exact .inl (h.skip j k hj h1 h2)

/-- the first entry from i on that is not visited -/
def NextOk (m : Nat) (V : Nat → Prop) (i r : Nat) : Prop := i ≤ r ∧ r ≤ m ∧ (∀ j, i ≤ j → j < r → V j) ∧ (r = m ∨ ¬ V r)

theorem LinkOk.compress {m : Nat} {V : Nat → Prop} {L : Nat → Nat} (h : LinkOk m V L) {i r : Nat} (hn : NextOk m V i r) (hne : L i ≠ r) :
    i < r ∧ i < L i ∧ L i ≤ r ∧ LinkOk m V (fun j => if j = i then r else L j) ∧ NextOk m V (L i) r := by
  obtain ⟨h1, h2, h3, h4⟩ := hn
  have hL := h.lt i (by omega)
  have hir : i < r := by
    rcases Nat.lt_or_ge i r with g | g
    · exact g
    · exfalso
      obtain rfl : i = r := by omega
      rcases h4 with rfl | h4
      · omega
      · by_cases hm : i = m
        · omega
        · exact hne (h.un i (by omega) h4)
  have hvi := h3 i (Nat.le_refl _) hir
  have hlt := h.vis i (by omega) hvi
  have hle : L i ≤ r := by
    rcases Nat.lt_or_ge r (L i) with g | g
    · rcases h4 with rfl | h4
      · omega
      · exact absurd (h.skip i r (by omega) h1 g) h4
    · exact g
  refine ⟨hir, hlt, hle, ⟨fun j hj => ?_, fun j hj hv => ?_, fun j hj hv => ?_, fun j k hj g1 g2 => ?_⟩, hle, h2, fun j g1 g2 => h3 j (by omega) g2, h4⟩
  · by_cases e : j = i
    · rw [if_pos e]; omega
    · rw [if_neg e]; exact h.lt j hj
  · by_cases e : j = i
    · subst e; exact absurd hvi hv
    · rw [if_neg e]; exact h.un j hj hv
  · by_cases e : j = i
    · rw [if_pos e]; omega
    · rw [if_neg e]; exact h.vis j hj hv
  · by_cases e : j = i
    · rw [if_pos e] at g2
      exact h3 k (by omega) g2
    · rw [if_neg e] at g2
      exact h.skip j k hj g1 g2

/-- nothing but block b has turned -/
structure Only (w w' : World) (b : Nat) : Prop where
  os : w'.os = w.os
  tape : w'.tape = w.tape
  output : w'.output = w.output
  size : w'.heap.size = w.heap.size
  block : ∀ k, k ≠ b → w'.heap[k]? = w.heap[k]?
theorem Only.refl (w : World) (b : Nat) : Only w w b := ⟨rfl, rfl, rfl, rfl, fun _ _ => rfl⟩
theorem Only.set {w w' : World} {b : Nat} (h : Only w w' b) (o : Nat) (v : Value) : Only w (w'.setCell ⟨b, o, none⟩ v) b :=
  ⟨h.os, h.tape, h.output, by simp [h.size], fun k hk => (Deep.blk_setCell_other _ _ _ _ (by exact hk)).trans (h.block k hk)⟩
theorem Only.drewN {w w' : World} {b : Nat} (h : Only w w' b) (n : Nat) : Only w (w'.drewN n) b := ⟨h.os, h.tape, h.output, h.size, h.block⟩
theorem Only.below {w w' : World} {b B : Nat} (h : Only w w' b) (hb : B ≤ b) : Below B w w' := ⟨h.os, h.tape, h.output, by rw [h.size]; exact Nat.le_refl _, fun k hk => h.block k (by omega)⟩

def i32row (L : Nat → Nat) (j : Nat) : Value := .int .i32 (L j)

theorem row_set {w : World} {b m : Nat} {L : Nat → Nat} (h : w.rowIs b 21 m (i32row L)) (i x : Nat) : (w.setCell ⟨b, i, none⟩ (.int .i32 x)).rowIs b 21 m (i32row fun j => if j = i then x else L j) :=
  (h.set i _).congr (fun j _ => by unfold i32row; by_cases e : j = i <;> simp [e])

set_option maxHeartbeats 400000 in
theorem visit_any (b n i : Nat) (w : World) (hi : i < n) (hn : n ≤ 2000) {L : Nat → Nat} (h : w.rowIs b 21 n (i32row L)) :
    Calls Yba.prog 14 #[.slice (some ⟨b, 0, none⟩) n n, .int .i32 i] w fun e w' => e = .returned (.tuple #[]) ∧ w.setCell ⟨b, i, none⟩ (.int .i32 ((i + 1 : Nat) : Int)) = w' := by
  have hc := h.cell hi
  have hf := h.frozen i
  unfold i32row at hc
  clear h
  go_enter Yba.func14, Yba.ntmps14
  go_wp2
  go_end0
  exact ⟨rfl, by simp⟩

set_option maxHeartbeats 400000 in
theorem from_any (b m i : Nat) (w : World) (V : Nat → Prop) (L : Nat → Nat) (hi : i ≤ m) (hm : m ≤ 1999) (hL : LinkOk m V L) (h : w.rowIs b 21 (m + 1) (i32row L)) :
    Calls Yba.prog 16 #[.slice (some ⟨b, 0, none⟩) (m + 1) (m + 1), .int .i32 i] w fun e w' => ∃ r L', e = .returned (.int .i32 (r : Nat)) ∧ NextOk m V i r ∧ LinkOk m V L' ∧ w'.rowIs b 21 (m + 1) (i32row L') ∧ Only w w' b := by
  go_enter Yba.func16, Yba.ntmps16
  go_wp2
  go_loop [5] (fun x => ∃ r : Nat, x = .int .i32 r ∧ i ≤ r ∧ r ≤ m ∧ Hid (∀ j, i ≤ j → j < r → V j)) (fun x => m - (intOf x).toNat)
  case atStart => exact ⟨i, rfl, Nat.le_refl _, hi, fun j h1 h2 => absurd h2 (by omega)⟩
  case round =>
    obtain ⟨r, rfl, hr1, hr2, hr3⟩ := hrel
    have hc := h.cell (i := r) (by omega)
    unfold i32row at hc
    have hb := hL.lt r hr2
    by_cases e : L r = r
    · have hbb : ((L r : Int) != (r : Int)) = false := by simp [e]
      have hN : NextOk m V i r := by
        refine ⟨hr1, hr2, hr3.out, ?_⟩
        by_cases hm' : r = m
        · exact .inl hm'
        · refine .inr (fun hv => ?_)
          have := hL.vis r (by omega) hv
          omega
      have HN : Hid (NextOk m V i r) := hN
      have HL : Hid (LinkOk m V L) := hL
      have HR : Hid (w.rowIs b 21 (m + 1) (i32row L)) := h
      clear hN e
      go_wp2
      clear hbb hc hb hL h
      go_loopw [1] (fun x wr => ∃ (k : Nat) (L' : Nat → Nat), x = .int .i32 k ∧ k ≤ m ∧ i ≤ k ∧ k ≤ r ∧ Hid (NextOk m V k r ∧ LinkOk m V L' ∧ wr.rowIs b 21 (m + 1) (i32row L') ∧ Only w wr b)) (fun x _ => r - (intOf x).toNat)
      case atStart => exact ⟨i, L, rfl, hi, Nat.le_refl _, hr1, HN.out, HL.out, HR.out, Only.refl _ _⟩
      case round =>
        obtain ⟨k, L', rfl, hk1, hk2, hk3, hh⟩ := hrel
        have hc := hh.out.2.2.1.cell (i := k) (by omega)
        have hf := hh.out.2.2.1.frozen k
        unfold i32row at hc
        by_cases e : L' k = r
        · have hbb : ((L' k : Int) != (r : Int)) = false := by simp [e]
          go_wp2
          go_ret
          exact ⟨r, L', rfl, HN.out, hh.out.2.1, hh.out.2.2.1, hh.out.2.2.2⟩
        · have hbb : ((L' k : Int) != (r : Int)) = true := by simp; omega
          obtain ⟨c1, c2, c3, c4, c5⟩ := hh.out.2.1.compress hh.out.1 e
          have HC : Hid (LinkOk m V (fun j => if j = k then r else L' j) ∧ NextOk m V (L' k) r) := ⟨c4, c5⟩
          clear c4 c5 e
          go_wp2
          go_roundw
          case rel => exact ⟨L' k, fun j => if j = k then r else L' j, rfl, by omega, by omega, c3, HC.out.2, HC.out.1, row_set hh.out.2.2.1 k r, hh.out.2.2.2.set k _⟩
          case measure => simp [intOf]; omega
    · have hbb : ((L r : Int) != (r : Int)) = true := by simp; omega
      have hrv : V r := hL.skip r r hr2 (Nat.le_refl _) (by omega)
      have HS : Hid (∀ j, r ≤ j → j < L r → V j) := fun j h1 h2 => hL.skip r j hr2 h1 h2
      clear hrv
      go_wp2
      go_round
      case rel => exact ⟨L r, rfl, by omega, hb.2, fun j h1 h2 => by
        rcases Nat.lt_or_ge j r with g | g
        · exact hr3.out j h1 g
        · exact HS.out j g h2⟩
      case measure => simp [intOf]; omega

theorem Yba.info21 : (Yba.prog.info? 21).map (fun i => (i.zero, i.size, i.bytes)) = some (some (.int .i32 0), 1, 4) := by kernel_rfl

set_option maxHeartbeats 400000 in
theorem newUn_any (n : Nat) (w : World) (hn : n ≤ 1999) :
    Calls Yba.prog 18 #[.int .i64 n] w fun e w' => e = .returned (.slice (some ⟨w.heap.size, 0, none⟩) (n + 1) (n + 1)) ∧ w'.rowIs w.heap.size 21 (n + 1) (i32row fun i => i) ∧ Below w.heap.size w w' ∧ w'.heap.size = w.heap.size + 1 := by
  have hmk := run_make_row' (P := Yba.prog) 69 21 (.int .i32 0) 4 Yba.underlying69 Yba.info21 rfl .i64 .i64 (n + 1) (by omega) (by omega)
  rw [show ((n + 1 : Nat) : Int) = (n : Int) + 1 from by omega] at hmk
  go_enter Yba.func18, Yba.ntmps18
  go_wp2
  clear hmk
  go_loopw [10] (fun x wr => ∃ k : Nat, k ≤ n + 1 ∧ x = .int .i64 k ∧ Hid (wr.rowIs w.heap.size 21 (n + 1) (fun j => .int .i32 (if j < k then (j : Int) else 0)) ∧ Below w.heap.size w wr ∧ wr.heap.size = w.heap.size + 1)) (fun x _ => n + 1 - (intOf x).toNat)
  case atStart => exact ⟨0, Nat.zero_le _, rfl, (World.rowIs_made w _ (n + 1) 21).congr (fun j _ => by simp), (Below.refl _ _).alloc (Nat.le_refl _) _, by simp⟩
  case round =>
    obtain ⟨k, hk, rfl, hh⟩ := hrel
    by_cases hlt : k < n + 1
    · have hc := hh.out.1.cell hlt
      have hf := hh.out.1.frozen k
      have hlt' : (k : Int) < (n : Int) + 1 := by omega
      go_wp2
      go_roundw
      case rel =>
        refine ⟨k + 1, by omega, by go_num, ((hh.out.1.set k _).congr (fun j _ => ?_)), hh.out.2.1.setCell (Nat.le_refl _) _, by simp [hh.out.2.2]⟩
        by_cases e : j = k
        · subst e; simp
        · rw [if_neg e]
          by_cases g : j < k
          · rw [if_pos g, if_pos (by omega)]
          · rw [if_neg g, if_neg (by omega)]
      case measure => simp [intOf]; omega
    · have hlt' : ¬ (k : Int) < (n : Int) + 1 := by omega
      have hk' : n + 1 ≤ k := by omega
      go_wp2
      go_ret
      refine ⟨rfl, hh.out.1.congr (fun j hj => ?_), hh.out.2.1, hh.out.2.2⟩
      unfold i32row
      rw [if_pos (by omega)]

/-- what 'conflicts' says of an access: the list, and before which place -/
def confK (wr : Bool) : Nat := if wr then 0 else 1
def confB (wr : Bool) (at_ wat : Nat) : Nat := if wr then at_ else wat

set_option maxHeartbeats 400000 in
theorem conf_any (t o at_ wat : Nat) (wr : Bool) (w : World) (ha : at_ ≤ 2000) (hb : wat ≤ 2000) :
    Calls Yba.prog 15 #[.agg #[.int .i32 t, .int .i32 o, .bool wr, .int .i32 at_, .int .i32 wat]] w fun e w' =>
      ∃ r, e = .returned (.tuple #[.int .i64 (confK wr), .int .i32 (confB wr at_ wat), r]) ∧ ∃ k, w' = (w.alloc (.cells #[.int .i32 t, .int .i32 o, .bool wr, .int .i32 at_, .int .i32 wat] 60)).drewN k := by
  cases wr with
  | true =>
    go_enter Yba.func15, Yba.ntmps15
    go_wp2
    go_quiet (fail)
    go_wp2
    go_ret3
    exact ⟨_, rfl, _, rfl⟩
  | false =>
    go_enter Yba.func15, Yba.ntmps15
    go_wp2
    go_quiet (fail)
    go_wp2
    go_ret3
    exact ⟨_, rfl, _, rfl⟩
end Go.Proofs.Ybulkxos
