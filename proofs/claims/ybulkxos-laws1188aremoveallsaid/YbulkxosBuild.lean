/-
  THE WALK of 'zzs1188abuild' (function 7): a well-linked line of n requests.
-/
import Derived.Test.YbulkxosRows
import Derived.Test.YbulkxosLn
import Derived.Test.YbulkxosUnPl
import Derived.WalkKit
import Derived.WalkSpells
import Derived.WalkLawsBesides
namespace Go.Proofs.Ybulkxos
open Go.RowKit
set_option linter.unusedVariables false

theorem Yba.info28 : (Yba.prog.info? 28).map (fun i => (i.zero, i.size, i.bytes)) = some (some (.pointer none), 1, 8) := by kernel_rfl

/-- the conversions stand first -/
def cvF (n c i : Nat) : Bool := decide (c < n) && decide (i ≤ c)

structure B1 (w wr : World) (n c s k : Nat) : Prop where
  size : wr.heap.size = w.heap.size + 1 + k
  bel : Below w.heap.size w wr
  ps : wr.rowIs w.heap.size 28 n (fun i => if i < k then pt w.heap.size (some i) else .pointer none)
  node : ∀ i, i < k → wr.rowIs (w.heap.size + 1 + i) 43 14 (nodeF s (cvF n c i) (.pointer none) (.pointer none))

theorem B1.start (w : World) (n c s : Nat) : B1 w (w.alloc (.cells (madeCells #[.pointer none] n) 28)) n c s 0 :=
  ⟨by simp, (Below.refl _ _).alloc (Nat.le_refl _) _, (World.rowIs_made w _ n 28).congr (fun j _ => by simp), fun i hi => absurd hi (Nat.not_lt_zero _)⟩

theorem B1.step {w wr : World} {n c s k : Nat} (h : B1 w wr n c s k) (hs : s = 0 ∨ s = 1) :
    B1 w ((wr.setCell ⟨w.heap.size, k, none⟩ (.pointer (some ⟨wr.heap.size, 0, none⟩))).alloc
      (.cells #[.pointer none, .pointer none, .pointer none, .int .u64 0, .int .u8 0, .bool (cvF n c k), .int .u8 0, .bool false, .pointer none, .pointer none, .pointer none, .pointer none, .chan none, .nilIface] 43)) n c s (k + 1) := by
  have hz := h.size
  refine ⟨by simp [hz]; omega, ((h.bel.setCell (Nat.le_refl _) _).alloc (by simp [hz]; omega) _), ((h.ps.set k _).congr (fun i _ => ?_)).alloc _, fun i hi => ?_⟩
  · by_cases e : i = k
    · subst e
      rw [if_pos rfl, if_pos (by omega), hz]
      rfl
    · rw [if_neg e]
      by_cases hlt : i < k
      · rw [if_pos hlt, if_pos (by omega)]
      · rw [if_neg hlt, if_neg (by omega)]
  · by_cases e : i = k
    · subst e
      have := World.rowIs_alloc (wr.setCell ⟨w.heap.size, i, none⟩ (.pointer (some ⟨wr.heap.size, 0, none⟩))) #[.pointer none, .pointer none, .pointer none, .int .u64 0, .int .u8 0, .bool (cvF n c i), .int .u8 0, .bool false, .pointer none, .pointer none, .pointer none, .pointer none, .chan none, .nilIface] 43
        (nodeF s (cvF n c i) (.pointer none) (.pointer none)) (fun j hj => by
          simp at hj
          rcases hs with rfl | rfl <;> (match j, hj with
            | 0, _ => rfl | 1, _ => rfl | 2, _ => rfl | 3, _ => rfl | 4, _ => rfl | 5, _ => rfl | 6, _ => rfl | 7, _ => rfl | 8, _ => rfl | 9, _ => rfl | 10, _ => rfl | 11, _ => rfl | 12, _ => rfl | 13, _ => rfl))
      simp only [World.size_setCell, hz] at this
      simpa [hz] using this
    · exact ((h.node i (by omega)).setOther (by show w.heap.size + 1 + i ≠ w.heap.size; omega) _).alloc _


structure B2 (w wr : World) (n c s k : Nat) : Prop where
  size : wr.heap.size = w.heap.size + 1 + n
  bel : Below w.heap.size w wr
  ps : wr.rowIs w.heap.size 28 n (fun i => pt w.heap.size (some i))
  node : ∀ i, i < n → wr.rowIs (w.heap.size + 1 + i) 43 14 (nodeF s (cvF n c i) (pt w.heap.size (if i < k then pv0 i else none)) (pt w.heap.size (if i < k then nx0 n i else none)))

theorem B1.done {w wr : World} {n c s : Nat} (h : B1 w wr n c s n) : B2 w wr n c s 0 :=
  ⟨h.size, h.bel, h.ps.congr (fun i hi => by rw [if_pos hi]), fun i hi => by simpa [pt] using h.node i hi⟩

theorem B2.step {w wr : World} {n c s k : Nat} (h : B2 w wr n c s k) (hk : k < n) :
    B2 w ((wr.setCell ⟨w.heap.size + 1 + k, 8 + 2 * s, none⟩ (pt w.heap.size (pv0 k))).setCell ⟨w.heap.size + 1 + k, 9 + 2 * s, none⟩ (pt w.heap.size (nx0 n k))) n c s (k + 1) := by
  refine ⟨by simp [h.size], (h.bel.setCell (by show w.heap.size ≤ w.heap.size + 1 + k; omega) _).setCell (by show w.heap.size ≤ w.heap.size + 1 + k; omega) _,
    (h.ps.setOther (by show w.heap.size ≠ w.heap.size + 1 + k; omega) _).setOther (by show w.heap.size ≠ w.heap.size + 1 + k; omega) _, fun i hi => ?_⟩
  by_cases e : i = k
  · subst e
    refine (((h.node i hi).set (8 + 2 * s) _).set (9 + 2 * s) _).congr (fun j _ => ?_)
    simp only [show i < i + 1 from Nat.lt_succ_self i, if_true]
    unfold nodeF
    by_cases e1 : j = 8 + 2 * s
    · subst e1
      rw [if_neg (by omega), if_pos rfl, if_pos rfl]
    · by_cases e2 : j = 9 + 2 * s
      · subst e2
        rw [if_pos rfl, if_neg (by omega), if_pos rfl]
      · simp [e1, e2]
  · have e' : (i < k + 1) = (i < k) := by apply propext; omega
    simp only [e']
    exact ((h.node i hi).setOther (by show w.heap.size + 1 + i ≠ w.heap.size + 1 + k; omega) _).setOther (by show w.heap.size + 1 + i ≠ w.heap.size + 1 + k; omega) _


/-- what build hands back: the line's own block laid -/
theorem B2.done {w wr : World} {n c s : Nat} (h : B2 w wr n c s n) (hn : 0 < n) (C : Array Value)
    (hC : C = #[pt w.heap.size (some 0), pt w.heap.size (some (n - 1)), pt w.heap.size (lc0 n c)]) :
    Ln (wr.alloc (.cells C 30)) w.heap.size n s (cvF n c) (some 0) (some (n - 1)) (lc0 n c) pv0 (nx0 n) ∧ Below w.heap.size w (wr.alloc (.cells C 30)) ∧ (wr.alloc (.cells C 30)).heap.size = w.heap.size + 2 + n := by
  subst hC
  refine ⟨⟨h.ps.alloc _, fun i hi => ?_, ?_⟩, h.bel.alloc (by have := h.size; omega) _, by simp [h.size]; omega⟩
  · have := (h.node i hi).alloc (.cells #[pt w.heap.size (some 0), pt w.heap.size (some (n - 1)), pt w.heap.size (lc0 n c)] 30)
    simpa [hi] using this
  · have := World.rowIs_alloc wr #[pt w.heap.size (some 0), pt w.heap.size (some (n - 1)), pt w.heap.size (lc0 n c)] 30 (lineF (pt w.heap.size (some 0)) (pt w.heap.size (some (n - 1))) (pt w.heap.size (lc0 n c))) (fun j hj => by
      simp at hj
      match j, hj with
      | 0, _ => rfl
      | 1, _ => rfl
      | 2, _ => rfl)
    rw [h.size] at this
    exact this

set_option maxHeartbeats 400000 in
set_option maxRecDepth 100000 in
theorem build_any (n c s : Nat) (w : World) (hn : 0 < n) (hn64 : n ≤ 64) (hc : c ≤ n) (hs : s = 0 ∨ s = 1) :
    Calls Yba.prog 7 #[.int .i64 n, .int .i64 c, .int .u8 s] w fun e w' =>
      e = .returned (.tuple #[.pointer (some ⟨w.heap.size + 1 + n, 0, none⟩), .slice (some ⟨w.heap.size, 0, none⟩) n n]) ∧
      Ln w' w.heap.size n s (cvF n c) (some 0) (some (n - 1)) (lc0 n c) pv0 (nx0 n) ∧ Below w.heap.size w w' ∧ w'.heap.size = w.heap.size + 2 + n := by
  have hmk := run_make_row' (P := Yba.prog) 24 28 (.pointer none) 8 Yba.underlying24 Yba.info28 rfl .i64 .i64 n (by omega) (by omega)
  go_enter Yba.func7, Yba.ntmps7
  go_wp2
  clear hmk
  go_loopw [9] (fun i wr => ∃ k : Nat, k ≤ n ∧ i = .int .i64 k ∧ B1 w wr n c s k) (fun i _ => n - (intOf i).toNat)
  case atStart => exact ⟨0, Nat.zero_le _, rfl, B1.start w n c s⟩
  case round =>
    obtain ⟨k, hk, rfl, hB⟩ := hrel
    by_cases hlt : k < n
    · have hcl := hB.ps.cell hlt
      have hfl := hB.ps.frozen k
      have hbl := hB.ps.lt
      have HC : Hid (cvF n c k = (decide (c < n) && decide (k ≤ c))) := rfl
      by_cases hcn : c < n
      · by_cases hkc : k ≤ c
        · go_wp2
          go_roundw
          case rel =>
            have := hB.step hs
            rw [HC.out] at this
            simp only [hcn, hkc, decide_true, Bool.and_self] at this
            exact ⟨k + 1, by omega, by go_num, this⟩
          case measure => simp [intOf]; omega
        · go_wp2
          go_roundw
          case rel =>
            have := hB.step hs
            rw [HC.out] at this
            simp only [hkc, decide_false, Bool.and_false] at this
            exact ⟨k + 1, by omega, by go_num, this⟩
          case measure => simp [intOf]; omega
      · go_wp2
        go_roundw
        case rel =>
          have := hB.step hs
          rw [HC.out] at this
          simp only [hcn, decide_false, Bool.false_and] at this
          exact ⟨k + 1, by omega, by go_num, this⟩
        case measure => simp [intOf]; omega
    · obtain rfl : n = k := by omega
      have hB2 := hB.done
      clear hB
      go_wp2
      go_loopw [10] (fun i wr => ∃ k : Nat, k ≤ n ∧ i = .int .i64 k ∧ B2 w wr n c s k) (fun i _ => n - (intOf i).toNat)
      case atStart => exact ⟨0, Nat.zero_le _, rfl, hB2⟩
      case round =>
        clear hB2
        obtain ⟨k, hk, rfl, hB⟩ := hrel
        by_cases hlt : k < n
        · have hst := hB.step hlt
          have hcl := hB.ps.cell hlt
          have hn8 := (hB.node k hlt).cell (i := 8 + 2 * s) (by omega)
          have hn9 := (hB.node k hlt).cell (i := 9 + 2 * s) (by omega)
          have hf8 := (hB.node k hlt).frozen (8 + 2 * s)
          have hf9 := (hB.node k hlt).frozen (9 + 2 * s)
          have hbl := (hB.node k hlt).lt
          have hcp : 0 < k → wr.cell? ⟨w.heap.size, k - 1, none⟩ = some (pt w.heap.size (some (k - 1))) := fun h => hB.ps.cell (by omega)
          have hcn : k < n - 1 → wr.cell? ⟨w.heap.size, k + 1, none⟩ = some (pt w.heap.size (some (k + 1))) := fun h => hB.ps.cell (by omega)
          clear hB
          simp only [pt, Option.map_some] at hcl hcp hcn
          have HS : Hid _ := hst
          clear hst
          rcases hs with rfl | rfl
          all_goals
            by_cases hk0 : 0 < k
            all_goals
              by_cases hkn : k < n - 1
              all_goals
                go_wp2
                go_roundw
                case rel =>
                  have HQ := HS.out
                  simp only [pv0, nx0, hk0, hkn, if_true, if_false] at HQ
                  exact ⟨k + 1, by omega, by go_num, HQ⟩
                case measure => simp [intOf]; omega
        · obtain rfl : n = k := by omega
          have hc0 := hB.ps.cell hn
          have hc1 := hB.ps.cell (i := n - 1) (by omega)
          have hcc : c < n → wr.cell? ⟨w.heap.size, c, none⟩ = some (pt w.heap.size (some c)) := fun h => hB.ps.cell h
          simp only [pt, Option.map_some] at hc0 hc1 hcc
          have hz := hB.ps.lt
          have HZ : Hid (wr.heap.size = w.heap.size + 1 + n) := hB.size
          have HD : Hid _ := hB.done hn #[pt w.heap.size (some 0), pt w.heap.size (some (n - 1)), pt w.heap.size (lc0 n c)] rfl
          clear hB
          by_cases hcn : c < n
          · have hcc := hcc hcn
            go_wp2
            go_region
            go_wp2
            go_ret2
            have D := HD.out
            simp only [lc0, hcn, if_true] at D
            refine ⟨?_, ?_⟩
            · show Ending.returned (.tuple #[.pointer (some ⟨wr.heap.size, 0, none⟩), .slice (some ⟨w.heap.size, 0, none⟩) n n]) = _
              rw [HZ.out]
            · simp only [lc0, hcn, if_true]
              exact ⟨⟨D.1.ps, D.1.node, D.1.line⟩, D.2.1.drew, D.2.2⟩
          · go_wp2
            go_region
            go_wp2
            go_ret2
            have D := HD.out
            simp only [lc0, hcn, if_false] at D
            refine ⟨?_, ?_⟩
            · show Ending.returned (.tuple #[.pointer (some ⟨wr.heap.size, 0, none⟩), .slice (some ⟨w.heap.size, 0, none⟩) n n]) = _
              rw [HZ.out]
            · simp only [lc0, hcn, if_false]
              exact ⟨⟨D.1.ps, D.1.node, D.1.line⟩, D.2.1.drew, D.2.2⟩
end Go.Proofs.Ybulkxos
