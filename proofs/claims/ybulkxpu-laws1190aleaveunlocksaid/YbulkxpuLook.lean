/-
  THE WALKS over sync/atomic's methods (functions 6, 7, 19, 21, 31) and proc's own (20 ringLen, 8 look, 10 leave, 11 unlock), and zzs1190aringwant (9).
-/
import Derived.Test.YbulkxpuRows
import Derived.WalkKit
import Derived.WalkSpells
import Derived.WalkLawsBesides
namespace Go.Proofs.Ybulkxpu
open Go.RowKit
set_option linter.unusedVariables false

set_option maxHeartbeats 400000 in
theorem load64 (b o : Nat) (v : Int) (w : World) (hc : w.cell? ⟨b, o, none⟩ = some (.int .u64 v)) : Calls Yba.prog 19 #[.pointer (some ⟨b, o, none⟩)] w fun e w' => e = .returned (.int .u64 v) ∧ w' = w := by
  have hl := run_call_load (P := Yba.prog) Yba.func30 (by kernel_rfl) (by kernel_rfl) (by kernel_rfl) .u64 (by kernel_rfl) hc
  go_enter Yba.func19, Yba.ntmps19
  go_wp2
  go_ret
  exact ⟨rfl, rfl⟩
set_option maxHeartbeats 400000 in
theorem load32 (b o : Nat) (v : Int) (w : World) (hc : w.cell? ⟨b, o, none⟩ = some (.int .u32 v)) : Calls Yba.prog 31 #[.pointer (some ⟨b, o, none⟩)] w fun e w' => e = .returned (.int .u32 v) ∧ w' = w := by
  have hl := run_call_load (P := Yba.prog) Yba.func45 (by kernel_rfl) (by kernel_rfl) (by kernel_rfl) .u32 (by kernel_rfl) hc
  go_enter Yba.func31, Yba.ntmps31
  go_wp2
  go_ret
  exact ⟨rfl, rfl⟩
set_option maxHeartbeats 400000 in
theorem store64 (b o : Nat) (v u : Int) (w : World) (hc : w.cell? ⟨b, o, none⟩ = some (.int .u64 v)) (hf : w.frozen? ⟨b, o, none⟩ = false) : Calls Yba.prog 6 #[.pointer (some ⟨b, o, none⟩), .int .u64 u] w fun e w' => e = .returned (.tuple #[]) ∧ w.setCell ⟨b, o, none⟩ (.int .u64 u) = w' := by
  have hst := run_call_store (P := Yba.prog) Yba.func17 (by kernel_rfl) (by kernel_rfl) (by kernel_rfl) (by kernel_rfl) (k := .u64) (y := u) hc hf
  go_enter Yba.func6, Yba.ntmps6
  go_wp2
  go_end0
  exact ⟨rfl, rfl⟩
set_option maxHeartbeats 400000 in
theorem store32 (b o : Nat) (v u : Int) (w : World) (hc : w.cell? ⟨b, o, none⟩ = some (.int .u32 v)) (hf : w.frozen? ⟨b, o, none⟩ = false) : Calls Yba.prog 7 #[.pointer (some ⟨b, o, none⟩), .int .u32 u] w fun e w' => e = .returned (.tuple #[]) ∧ w.setCell ⟨b, o, none⟩ (.int .u32 u) = w' := by
  have hst := run_call_store (P := Yba.prog) Yba.func18 (by kernel_rfl) (by kernel_rfl) (by kernel_rfl) (by kernel_rfl) (k := .u32) (y := u) hc hf
  go_enter Yba.func7, Yba.ntmps7
  go_wp2
  go_end0
  exact ⟨rfl, rfl⟩
set_option maxHeartbeats 400000 in
theorem cas64 (b o : Nat) (v u : Int) (w : World) (hc : w.cell? ⟨b, o, none⟩ = some (.int .u64 v)) (hf : w.frozen? ⟨b, o, none⟩ = false) : Calls Yba.prog 21 #[.pointer (some ⟨b, o, none⟩), .int .u64 v, .int .u64 u] w fun e w' => e = .returned (.bool true) ∧ w.setCell ⟨b, o, none⟩ (.int .u64 u) = w' := by
  have hcas := run_call_cas_hit (P := Yba.prog) Yba.func32 (by kernel_rfl) (by kernel_rfl) (by kernel_rfl) .u64 (by kernel_rfl) (y := u) hc hf
  go_enter Yba.func21, Yba.ntmps21
  go_wp2
  go_ret
  exact ⟨rfl, rfl⟩

/-- how many tasks the ring holds, as head and tail say -/
def rv (h t : Int) : Int := if (t - h) % 4294967296 < 2147483648 then (t - h) % 4294967296 else 0
theorem rv_bd (h t : Int) : 0 ≤ rv h t ∧ rv h t < 2147483648 := by unfold rv; split <;> omega
theorem ret_int {k : IntKind} {a b : Int} (h : a = b) : Ending.returned (.int k a) = .returned (.int k b) := by rw [h]
theorem ret_bool {a b : Bool} (h : a = b) : Ending.returned (.bool a) = .returned (.bool b) := by rw [h]

set_option maxHeartbeats 400000 in
theorem want_any (h t : Int) (w : World) (h0 : 0 ≤ h) (h1 : h ≤ 4294967295) (t0 : 0 ≤ t) (t1 : t ≤ 4294967295) : Calls Yba.prog 9 #[.int .u32 h, .int .u32 t] w fun e w' => e = .returned (.int .i64 (rv h t)) ∧ w' = w := by
  by_cases hd : (t - h) % 4294967296 < 2147483648
  · have HR : Hid (rv h t = (t - h) % 4294967296) := by show _ = _; unfold rv; rw [if_pos hd]
    go_enter Yba.func9, Yba.ntmps9
    go_wp2
    go_ret
    exact ⟨ret_int HR.out.symm, rfl⟩
  · have HR : Hid (rv h t = 0) := by show _ = _; unfold rv; rw [if_neg hd]
    go_enter Yba.func9, Yba.ntmps9
    go_wp2
    go_ret
    exact ⟨ret_int HR.out.symm, rfl⟩

theorem wrap_lo (d : Int) (h0 : 0 ≤ d) (h : d < 2147483648) : wrap64 (wrap32 d) = d := by
  unfold wrap64 wrap32; omega
theorem wrap_hi (d : Int) (h0 : 2147483648 ≤ d) (h : d < 4294967296) : wrap64 (wrap32 d) < 0 := by
  unfold wrap64 wrap32; omega

set_option maxHeartbeats 400000 in
theorem ringLen_any (b : Nat) (hd t : Int) (w : World) (h0 : 0 ≤ hd) (h1 : hd ≤ 4294967295) (t0 : 0 ≤ t) (t1 : t ≤ 4294967295) (hh : w.cell? ⟨b, 10, none⟩ = some (.int .u32 hd)) (ht : w.cell? ⟨b, 11, none⟩ = some (.int .u32 t)) :
    Calls Yba.prog 20 #[.pointer (some ⟨b, 0, none⟩)] w fun e w' => e = .returned (.int .i64 (rv hd t)) ∧ w' = w := by
  go_enter Yba.func20, Yba.ntmps20
  go_wp2_with fail
  refine (load32 _ _ _ _ hh).mono ?_
  rintro e w' ⟨rfl, rfl⟩
  go_wp2_with fail
  refine (load32 _ _ _ _ ht).mono ?_
  rintro e w' ⟨rfl, rfl⟩
  go_wp2
  · have hx : wrap64 (wrap32 ((t - hd) % 4294967296)) < 0 := by assumption
    go_ret
    refine ⟨ret_int ?_, rfl⟩
    unfold rv
    by_cases hq : (t - hd) % 4294967296 < 2147483648
    · rw [wrap_lo _ (by omega) hq] at hx
      omega
    · rw [if_neg hq]
  · have hx : 0 ≤ wrap64 (wrap32 ((t - hd) % 4294967296)) := by assumption
    go_ret
    refine ⟨ret_int ?_, rfl⟩
    unfold rv
    by_cases hq : (t - hd) % 4294967296 < 2147483648
    · rw [if_pos hq, wrap_lo _ (by omega) hq]
    · have := wrap_hi ((t - hd) % 4294967296) (by omega) (by omega)
      omega

/-! plain facts on the status word's bits -/
theorem and4 (S : Nat) (h : S < 18446744073709551616) : bits .and .u64 (S : Int) 4 = ((S / 4 % 2 * 4 : Nat) : Int) := by
  have := u64_and_nat S 4 h (by omega)
  rw [show ((4 : Nat) : Int) = 4 from rfl] at this
  rw [this]
  exact congrArg Nat.cast (nat_bit 2 S)
theorem and3 (S : Nat) (h : S < 18446744073709551616) : bits .and .u64 (S : Int) 3 = ((S % 4 : Nat) : Int) := by
  have := u64_and_nat S 3 h (by omega)
  rw [show ((3 : Nat) : Int) = 3 from rfl] at this
  rw [this, nat_mask2]
theorem and1 (S : Nat) (h : S < 18446744073709551616) : bits .and .u64 (S : Int) 1 = ((S % 2 : Nat) : Int) := by
  have := u64_and_nat S 1 h (by omega)
  rw [show ((1 : Nat) : Int) = 1 from rfl] at this
  rw [this, nat_mask1]
theorem nat_clear2 (S : Nat) (h : S < 2 ^ 64) : S &&& (18446744073709551615 - 3) = S / 4 * 4 := by
  apply Nat.eq_of_testBit_eq
  intro i
  rw [Nat.testBit_and, show (18446744073709551615 - 3 : Nat) = (2 ^ 62 - 1) * 2 ^ 2 from by decide, Nat.testBit_mul_two_pow, Nat.testBit_two_pow_sub_one, show S / 4 * 4 = S / 2 ^ 2 * 2 ^ 2 from rfl, Nat.testBit_mul_two_pow, Nat.testBit_div_two_pow]
  by_cases h2 : 2 ≤ i
  · rw [show i - 2 + 2 = i from by omega]
    by_cases h64 : i < 64
    · simp [h2, show i - 2 < 62 by omega]
    · have : S.testBit i = false := Nat.testBit_lt_two_pow (Nat.lt_of_lt_of_le h (Nat.pow_le_pow_right (by omega) (by omega)))
      simp [this]
  · simp [h2]
theorem andNot3 (S : Nat) (h : S < 18446744073709551616) : bits .andNot .u64 (S : Int) 3 = ((S / 4 * 4 : Nat) : Int) := by
  have := u64_andNot_nat S 3 h (by omega)
  rw [show ((3 : Nat) : Int) = 3 from rfl] at this
  rw [this, nat_clear2 S h]
theorem or0 (S : Nat) (h : S < 18446744073709551616) : bits .or .u64 (S : Int) 0 = (S : Int) := by
  have := u64_or_nat S 0 h (by omega)
  rw [show ((0 : Nat) : Int) = 0 from rfl] at this
  rw [this, Nat.or_zero]
theorem or1 (S : Nat) (h : S < 18446744073709551616) (h4 : S % 4 = 0) : bits .or .u64 (S : Int) 1 = ((S + 1 : Nat) : Int) := by
  have := u64_or_nat S 1 h (by omega)
  rw [show ((1 : Nat) : Int) = 1 from rfl] at this
  rw [this, nat_join 2 S 1 h4 (by omega)]
theorem nat_or4 (k r : Nat) (hr : r = 1 ∨ r = 5) : (k * 8 + r) ||| 4 = k * 8 + 5 := by
  have e : k * 8 + r = k * 8 ||| r := (nat_join 3 (k * 8) r (by omega) (by omega)).symm
  rw [e, Nat.or_assoc]
  have e2 : r ||| 4 = 5 := by rcases hr with rfl | rfl <;> rfl
  rw [e2, nat_join 3 (k * 8) 5 (by omega) (by omega)]
theorem or4 (S : Nat) (h : S < 18446744073709551616) (h4 : S % 4 = 1) : bits .or .u64 (S : Int) 4 = ((S / 8 * 8 + 5 : Nat) : Int) := by
  have := u64_or_nat S 4 h (by omega)
  rw [show ((4 : Nat) : Int) = 4 from rfl] at this
  rw [this]
  have e : S = S / 8 * 8 + S % 8 := by omega
  have := nat_or4 (S / 8) (S % 8) (by omega)
  rw [← e] at this
  rw [this]

/-- what 'look' says -/
def queuedOf (S : Nat) (h t : Int) : Int := if S / 4 % 2 = 1 then rv h t + 1 else rv h t

set_option maxHeartbeats 400000 in
theorem look_any (b S : Nat) (h t : Int) (w : World) (hS : S < 18446744073709551616) (h0 : 0 ≤ h) (h1 : h ≤ 4294967295) (t0 : 0 ≤ t) (t1 : t ≤ 4294967295) (hs : w.cell? ⟨b, 270, none⟩ = some (.int .u64 S)) (hh : w.cell? ⟨b, 10, none⟩ = some (.int .u32 h)) (ht : w.cell? ⟨b, 11, none⟩ = some (.int .u32 t)) :
    Calls Yba.prog 8 #[.pointer (some ⟨b, 0, none⟩)] w fun e w' => e = .returned (.tuple #[.bool ((S : Int) % 4 != 0), .int .i64 (queuedOf S h t)]) ∧ w' = w := by
  have hrv := rv_bd h t
  have e4 := and4 S hS
  have e3 := and3 S hS
  have HQ : Hid (queuedOf S h t = if S / 4 % 2 = 1 then rv h t + 1 else rv h t) := rfl
  by_cases hb : S / 4 % 2 = 1
  · rw [hb] at e4
    have HB : Hid (S / 4 % 2 = 1) := hb
    clear hb
    go_enter Yba.func8, Yba.ntmps8
    go_wp2_with fail
    refine (load64 _ _ _ _ hs).mono ?_
    rintro e w' ⟨rfl, rfl⟩
    go_wp2_with fail
    refine (ringLen_any b h t _ h0 h1 t0 t1 hh ht).mono ?_
    rintro e w' ⟨rfl, rfl⟩
    go_wp2
    go_ret2
    refine ⟨?_, rfl⟩
    rw [HQ.out, if_pos HB.out]
    rfl
  · have hb0 : S / 4 % 2 = 0 := by omega
    rw [hb0] at e4
    have HB : Hid (¬ S / 4 % 2 = 1) := hb
    clear hb hb0
    go_enter Yba.func8, Yba.ntmps8
    go_wp2_with fail
    refine (load64 _ _ _ _ hs).mono ?_
    rintro e w' ⟨rfl, rfl⟩
    go_wp2_with fail
    refine (ringLen_any b h t _ h0 h1 t0 t1 hh ht).mono ?_
    rintro e w' ⟨rfl, rfl⟩
    go_wp2
    go_ret2
    refine ⟨?_, rfl⟩
    rw [HQ.out, if_neg HB.out]
    rfl

set_option maxHeartbeats 400000 in
theorem leave_any (b S : Nat) (w : World) (hS : S < 18446744073709551616) (hs : w.cell? ⟨b, 270, none⟩ = some (.int .u64 S)) (hf : w.frozen? ⟨b, 270, none⟩ = false) :
    Calls Yba.prog 10 #[.pointer (some ⟨b, 0, none⟩), .int .u64 S] w fun e w' => e = .returned (.bool true) ∧ w.setCell ⟨b, 270, none⟩ (.int .u64 ((S / 4 * 4 : Nat) : Int)) = w' := by
  obtain ⟨Q, hQ⟩ : ∃ Q, Q = S / 4 * 4 := ⟨_, rfl⟩
  have e1 := andNot3 S hS
  rw [← hQ] at e1
  have e2 := or0 Q (by omega)
  have HQ : Hid (Q = S / 4 * 4) := hQ
  clear hQ
  go_enter Yba.func10, Yba.ntmps10
  go_wp2_with fail
  refine (cas64 _ _ _ _ _ hs hf).mono ?_
  rintro e w' ⟨rfl, rfl⟩
  go_wp2
  go_ret
  exact ⟨rfl, by rw [HQ.out]⟩

set_option maxHeartbeats 400000 in
theorem unlock_any (b S : Nat) (v : Int) (w : World) (hS : S < 18446744073709551616) (h1 : S % 4 = 1) (hs : w.cell? ⟨b, 270, none⟩ = some (.int .u64 v)) (hf : w.frozen? ⟨b, 270, none⟩ = false) :
    Calls Yba.prog 11 #[.pointer (some ⟨b, 0, none⟩), .int .u64 S] w fun e w' => (∃ r, e = .returned r) ∧ w.setCell ⟨b, 270, none⟩ (.int .u64 ((S / 8 * 8 + 5 : Nat) : Int)) = w' := by
  obtain ⟨Q, hQ⟩ : ∃ Q, Q = S / 8 * 8 + 5 := ⟨_, rfl⟩
  have e1 := or4 S hS h1
  rw [← hQ] at e1
  have HQ : Hid (Q = S / 8 * 8 + 5) := hQ
  clear hQ
  go_enter Yba.func11, Yba.ntmps11
  go_wp2_with fail
  refine (store64 _ _ _ _ _ hs hf).mono ?_
  rintro e w' ⟨rfl, rfl⟩
  go_wp2
  go_ret
  exact ⟨⟨_, rfl⟩, by rw [HQ.out]⟩
end Go.Proofs.Ybulkxpu
