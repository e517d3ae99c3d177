/-
  THE WALKS over schedule.LockKind and what it comes to (functions 8 valid, 7 locks, 5 LockKind, 6 zzs1188bwant), over the table 'kinds' as it is listed.
-/
import Derived.Test.YbulkxosDoorRows
import Derived.WalkKit
import Derived.WalkSpells
import Derived.WalkLawsBesides
namespace Go.Proofs.YbulkxosDoor
open Go.RowKit
set_option linter.unusedVariables false

/-- the table's two columns that are read: 'lock', 'mode' -/
def lkT (k : Nat) : Bool := decide (5 ≤ k ∧ k ≤ 10)
def mdT (k : Nat) : Int := if k = 1 then 1 else if k = 2 then 2 else if 5 ≤ k ∧ k ≤ 10 then (k : Int) - 4 else 0
def Tab (w : World) : Prop := ∀ k, k < 12 → w.cell? ⟨0, k * 4 + 2, none⟩ = some (.bool (lkT k)) ∧ w.cell? ⟨0, k * 4 + 3, none⟩ = some (.int .u8 (mdT k))

/-- what LockKind answers -/
def lkOf (m : Int) : Int := if 1 ≤ m ∧ m ≤ 6 then m + 4 else 0

theorem ret_bool {a b : Bool} (h : a = b) : Ending.returned (.bool a) = .returned (.bool b) := by rw [h]
theorem ret_int {k : IntKind} {a b : Int} (h : a = b) : Ending.returned (.int k a) = .returned (.int k b) := by rw [h]

set_option maxHeartbeats 400000 in
theorem valid_yes (k : Int) (w : World) (h0 : 1 ≤ k) (h1 : k < 12) : Calls Ybad.prog 8 #[.int .u8 k] w fun e w' => e = .returned (.bool true) ∧ w' = w := by
  go_enter Ybad.func8, Ybad.ntmps8
  go_wp2
  go_ret
  exact ⟨ret_bool (by simp), rfl⟩

set_option maxHeartbeats 400000 in
theorem valid_no (k : Int) (w : World) (h0 : 0 ≤ k) (h1 : k ≤ 255) (h : k = 0 ∨ 12 ≤ k) : Calls Ybad.prog 8 #[.int .u8 k] w fun e w' => e = .returned (.bool false) ∧ w' = w := by
  rcases h with rfl | h
  · go_enter Ybad.func8, Ybad.ntmps8
    go_wp2
    go_ret
    exact ⟨ret_bool (by simp), rfl⟩
  · go_enter Ybad.func8, Ybad.ntmps8
    go_wp2
    go_ret
    exact ⟨ret_bool (by simp; omega), rfl⟩

set_option maxHeartbeats 400000 in
theorem locks_any (k : Nat) (w : World) (hT : Tab w) (hk : k < 12) : Calls Ybad.prog 7 #[.int .u8 k] w fun e w' => e = .returned (.bool (lkT k)) ∧ w' = w := by
  have hl := (hT k hk).1
  clear hT
  by_cases h : 1 ≤ k
  · go_enter Ybad.func7, Ybad.ntmps7
    go_wp2_with (go_at_call 8; refine (valid_yes k _ (by omega) (by omega)).mono ?_; rintro e w' ⟨rfl, rfl⟩)
    go_ret
    exact ⟨rfl, rfl⟩
  · obtain rfl : k = 0 := by omega
    go_enter Ybad.func7, Ybad.ntmps7
    go_wp2_with (go_at_call 8; refine (valid_no 0 _ (by omega) (by omega) (by omega)).mono ?_; rintro e w' ⟨rfl, rfl⟩)
    go_ret
    exact ⟨rfl, rfl⟩

set_option maxHeartbeats 1000000 in
theorem lockKind_any (m : Int) (w : World) (hT : Tab w) (h0 : 0 ≤ m) (h1 : m ≤ 255) : Calls Ybad.prog 5 #[.int .u8 m] w fun e w' => e = .returned (.int .u8 (lkOf m)) ∧ w' = w := by
  have HT : Hid (Tab w) := hT
  clear hT
  go_enter Ybad.func5, Ybad.ntmps5
  go_wp2
  go_loop [3] (fun i => ∃ k : Nat, 1 ≤ k ∧ k ≤ 12 ∧ i = .int .u8 k ∧ Hid (¬ (1 ≤ m ∧ m ≤ 6 ∧ m + 4 < k))) (fun i => 12 - (intOf i).toNat)
  case atStart => exact ⟨1, by omega, by omega, rfl, by show ¬ _; omega⟩
  case round =>
    obtain ⟨k, hk1, hk2, rfl, hN⟩ := hrel
    by_cases hlt : k < 12
    · have hl := (HT.out k hlt).2
      have HM : Hid (mdT k = if k = 1 then 1 else if k = 2 then 2 else if 5 ≤ k ∧ k ≤ 10 then (k : Int) - 4 else 0) := rfl
      by_cases hb : 5 ≤ k ∧ k ≤ 10
      · have hlk : lkT k = true := by unfold lkT; simp [hb]
        have hmd : mdT k = (k : Int) - 4 := by unfold mdT; rw [if_neg (by omega), if_neg (by omega), if_pos hb]
        rw [hmd] at hl
        have HK : Hid (lkT k = true) := hlk
        clear hlk hmd
        by_cases he : (k : Int) - 4 = m
        · have hbb : ((k : Int) - 4 == m) = true := by simp [he]
          have HE : Hid ((k : Int) - 4 = m) := he
          clear he
          go_wp2_with (first | (go_at_call 8; refine (valid_yes k _ (by omega) (by omega)).mono ?_; rintro e w' ⟨rfl, rfl⟩) | (go_at_call 7; refine (locks_any k _ HT.out hlt).mono ?_; rintro e w' ⟨rfl, rfl⟩; rw [HK.out]))
          go_ret
          refine ⟨ret_int ?_, rfl⟩
          have := HE.out
          unfold lkOf
          rw [if_pos (by omega)]
          omega
        · have hbb : ((k : Int) - 4 == m) = false := by simp [he]
          have HE : Hid (¬ (k : Int) - 4 = m) := he
          clear he
          go_wp2_with (first | (go_at_call 8; refine (valid_yes k _ (by omega) (by omega)).mono ?_; rintro e w' ⟨rfl, rfl⟩) | (go_at_call 7; refine (locks_any k _ HT.out hlt).mono ?_; rintro e w' ⟨rfl, rfl⟩; rw [HK.out]))
          go_round
          case rel => exact ⟨k + 1, by omega, by omega, by go_num, by have := hN.out; have := HE.out; show ¬ _; omega⟩
          case measure => simp [intOf]; omega
      · have hlk : lkT k = false := by unfold lkT; simp; omega
        have HK : Hid (lkT k = false) := hlk
        have HB : Hid (¬ (5 ≤ k ∧ k ≤ 10)) := hb
        clear hlk hb
        go_wp2_with (first | (go_at_call 8; refine (valid_yes k _ (by omega) (by omega)).mono ?_; rintro e w' ⟨rfl, rfl⟩) | (go_at_call 7; refine (locks_any k _ HT.out hlt).mono ?_; rintro e w' ⟨rfl, rfl⟩; rw [HK.out]))
        go_round
        case rel => exact ⟨k + 1, by omega, by omega, by go_num, by have := hN.out; have := HB.out; show ¬ _; omega⟩
        case measure => simp [intOf]; omega
    · obtain rfl : k = 12 := by omega
      go_wp2_with (go_at_call 8; refine (valid_no 12 _ (by omega) (by omega) (by omega)).mono ?_; rintro e w' ⟨rfl, rfl⟩)
      go_ret
      refine ⟨ret_int ?_, rfl⟩
      have := hN.out
      unfold lkOf
      rw [if_neg (by omega)]

set_option maxHeartbeats 1000000 in
theorem want_any (m : Int) (w : World) (h0 : 0 ≤ m) (h1 : m ≤ 255) : Calls Ybad.prog 6 #[.int .u8 m] w fun e w' => e = .returned (.int .u8 (lkOf m)) ∧ w' = w := by
  by_cases h : 1 ≤ m ∧ m ≤ 6
  · obtain rfl | rfl | rfl | rfl | rfl | rfl : m = 1 ∨ m = 2 ∨ m = 3 ∨ m = 4 ∨ m = 5 ∨ m = 6 := by omega
    all_goals
      go_enter Ybad.func6, Ybad.ntmps6
      go_wp2
      go_ret
      exact ⟨rfl, rfl⟩
  · have e1 : (m == 1) = false := by simp; omega
    have e2 : (m == 2) = false := by simp; omega
    have e3 : (m == 3) = false := by simp; omega
    have e4 : (m == 4) = false := by simp; omega
    have e5 : (m == 5) = false := by simp; omega
    have e6 : (m == 6) = false := by simp; omega
    have HL : Hid (lkOf m = 0) := by show _ = _; unfold lkOf; rw [if_neg h]
    clear h
    go_enter Ybad.func6, Ybad.ntmps6
    go_wp2
    go_ret
    exact ⟨ret_int HL.out.symm, rfl⟩

-- LawS1188BTable
set_option maxHeartbeats 400000 in
theorem table_any (m : Int) (w : World) (hT : Tab w) (h0 : 0 ≤ m) (h1 : m ≤ 255) : Calls Ybad.prog 3 #[.int .u8 m] w fun e w' => e = .returned (.bool true) ∧ w' = w := by
  have HT : Hid (Tab w) := hT
  clear hT
  go_enter Ybad.func3, Ybad.ntmps3
  go_wp2_with (first | (go_at_call 5; refine (lockKind_any m _ HT.out h0 h1).mono ?_; rintro e w' ⟨rfl, rfl⟩) | (go_at_call 6; refine (want_any m _ h0 h1).mono ?_; rintro e w' ⟨rfl, rfl⟩))
  go_ret
  exact ⟨ret_bool (by simp), rfl⟩

-- LawS1188BRoundTrip
set_option maxHeartbeats 1000000 in
theorem round_core (a m : Int) (k : Nat) (w : World) (hT : Tab w) (ha0 : 0 ≤ a) (ha1 : a ≤ 255) (hk : k < 12) (ek : a % 12 = k) (h0 : 0 ≤ m) (h1 : m ≤ 255) :
    Calls Ybad.prog 4 #[.int .u8 a, .int .u8 m] w fun e w' => e = .returned (.bool true) ∧ w' = w := by
  have HT : Hid (Tab w) := hT
  have hl := (hT k hk).2
  clear hT
  by_cases hb : 5 ≤ k ∧ k ≤ 10
  · have hlk : lkT k = true := by unfold lkT; simp [hb]
    have hmd : mdT k = (k : Int) - 4 := by unfold mdT; rw [if_neg (by omega), if_neg (by omega), if_pos hb]
    rw [hmd] at hl
    have HK : Hid (lkT k = true) := hlk
    clear hlk hmd
    have HLK : Hid (lkOf ((k : Int) - 4) = k) := by show _ = _; unfold lkOf; rw [if_pos (by omega)]; omega
    go_enter Ybad.func4, Ybad.ntmps4
    go_wp2_with fail
    refine (locks_any k _ HT.out hk).mono ?_
    rintro e w' ⟨rfl, rfl⟩
    rw [HK.out]
    go_wp2_with fail
    refine (lockKind_any _ _ HT.out (by omega) (by omega)).mono ?_
    rintro e w' ⟨rfl, rfl⟩
    rw [HLK.out]
    go_wp2_with fail
    refine (lockKind_any m _ HT.out h0 h1).mono ?_
    rintro e w' ⟨rfl, rfl⟩
    by_cases hm : 1 ≤ m ∧ m ≤ 6
    · obtain ⟨j, hj⟩ : ∃ j : Nat, m + 4 = (j : Int) := ⟨(m + 4).toNat, by omega⟩
      have hj12 : j < 12 := by omega
      have hj0 : 5 ≤ j := by omega
      have e0 : lkOf m = (j : Int) := by unfold lkOf; rw [if_pos hm]; exact hj
      rw [e0]
      have hjj : ((j : Int) == 0) = false := by simp; omega
      have HJ : Hid (lkT j = true) := by show _ = _; unfold lkT; simp; omega
      have hlj := (HT.out j hj12).2
      have hmj : mdT j = m := by unfold mdT; rw [if_neg (by omega), if_neg (by omega), if_pos (by omega)]; omega
      rw [hmj] at hlj
      clear hmj e0 hj
      go_wp2_with fail
      refine (locks_any j _ HT.out hj12).mono ?_
      rintro e w' ⟨rfl, rfl⟩
      rw [HJ.out]
      go_wp2
      go_ret
      exact ⟨ret_bool (by simp), rfl⟩
    · have e0 : lkOf m = 0 := by unfold lkOf; rw [if_neg hm]
      rw [e0]
      clear e0
      go_wp2
      go_ret
      exact ⟨rfl, rfl⟩
  · have HK : Hid (lkT k = false) := by show _ = _; unfold lkT; simp; omega
    clear hb
    go_enter Ybad.func4, Ybad.ntmps4
    go_wp2_with fail
    refine (locks_any k _ HT.out hk).mono ?_
    rintro e w' ⟨rfl, rfl⟩
    rw [HK.out]
    go_wp2_with fail
    refine (lockKind_any m _ HT.out h0 h1).mono ?_
    rintro e w' ⟨rfl, rfl⟩
    by_cases hm : 1 ≤ m ∧ m ≤ 6
    · obtain ⟨j, hj⟩ : ∃ j : Nat, m + 4 = (j : Int) := ⟨(m + 4).toNat, by omega⟩
      have hj12 : j < 12 := by omega
      have hj0 : 5 ≤ j := by omega
      have e0 : lkOf m = (j : Int) := by unfold lkOf; rw [if_pos hm]; exact hj
      rw [e0]
      have hjj : ((j : Int) == 0) = false := by simp; omega
      have HJ : Hid (lkT j = true) := by show _ = _; unfold lkT; simp; omega
      have hlj := (HT.out j hj12).2
      have hmj : mdT j = m := by unfold mdT; rw [if_neg (by omega), if_neg (by omega), if_pos (by omega)]; omega
      rw [hmj] at hlj
      clear hmj e0 hj
      go_wp2_with fail
      refine (locks_any j _ HT.out hj12).mono ?_
      rintro e w' ⟨rfl, rfl⟩
      rw [HJ.out]
      go_wp2
      go_ret
      exact ⟨ret_bool (by simp), rfl⟩
    · have e0 : lkOf m = 0 := by unfold lkOf; rw [if_neg hm]
      rw [e0]
      clear e0
      go_wp2
      go_ret
      exact ⟨rfl, rfl⟩
end Go.Proofs.YbulkxosDoor
