/-
  PLAIN FACTS for LawS1188AUnlink: what is left of the line when request r is taken out. No Go in this text.
-/
namespace Go.Proofs.Ybulkxos
/-- the j-th of the others -/
def ex (r j : Nat) : Nat := if j < r then j else j + 1
def pv0 (i : Nat) : Option Nat := if 0 < i then some (i - 1) else none
def nx0 (n i : Nat) : Option Nat := if i < n - 1 then some (i + 1) else none
def lc0 (n c : Nat) : Option Nat := if c < n then some c else none

theorem un_hd (n r : Nat) (hr : r < n) : (if pv0 r = none then nx0 n r else some 0) = if 0 < n - 1 then some (ex r 0) else none := by
  unfold pv0 nx0 ex
  by_cases h : 0 < r
  · simp only [if_pos h, if_neg (Option.some_ne_none _), if_pos (show 0 < n - 1 by omega)]
  · obtain rfl : r = 0 := by omega
    simp

theorem un_tl (n r : Nat) (hr : r < n) : (if nx0 n r = none then pv0 r else some (n - 1)) = if 0 < n - 1 then some (ex r (n - 2)) else none := by
  unfold pv0 nx0 ex
  by_cases h : r < n - 1
  · simp only [if_pos h, if_neg (Option.some_ne_none _), if_pos (show 0 < n - 1 by omega), if_neg (show ¬ n - 2 < r by omega)]
    congr 1; omega
  · simp only [if_neg h, if_true]
    by_cases h0 : 0 < r
    · simp only [if_pos h0, if_pos (show 0 < n - 1 by omega), if_pos (show n - 2 < r by omega)]
      congr 1; omega
    · simp only [if_neg h0, if_neg (show ¬ 0 < n - 1 by omega)]

theorem un_nx (n r k : Nat) (hr : r < n) (hk : k < n - 1) : (if ex r k = r then none else if pv0 r = some (ex r k) then nx0 n r else nx0 n (ex r k)) = if k + 1 < n - 1 then some (ex r (k + 1)) else none := by
  unfold ex
  by_cases h : k < r
  · simp only [if_pos h, if_neg (show ¬ k = r by omega), pv0, if_pos (show 0 < r by omega), Option.some.injEq, nx0]
    by_cases h1 : r - 1 = k
    · simp only [if_pos h1, if_neg (show ¬ k + 1 < r by omega)]
      by_cases h2 : r < n - 1
      · simp only [if_pos h2, if_pos (show k + 1 < n - 1 by omega)]
        congr 1; omega
      · simp only [if_neg h2, if_neg (show ¬ k + 1 < n - 1 by omega)]
    · simp only [if_neg h1, if_pos (show k < n - 1 by omega), if_pos (show k + 1 < r by omega), if_pos (show k + 1 < n - 1 by omega)]
  · simp only [if_neg h, if_neg (show ¬ k + 1 = r by omega), if_neg (show ¬ k + 1 < r by omega)]
    have hp : ¬ pv0 r = some (k + 1) := by
      unfold pv0
      by_cases h0 : 0 < r
      · simp only [if_pos h0, Option.some.injEq]; omega
      · simp [if_neg h0]
    simp only [if_neg hp, nx0]

theorem un_pv (n r k : Nat) (hr : r < n) (hk : k < n - 1) : (if ex r k = r then none else if nx0 n r = some (ex r k) then pv0 r else pv0 (ex r k)) = if 0 < k then some (ex r (k - 1)) else none := by
  unfold ex
  by_cases h : k < r
  · have hp : ¬ nx0 n r = some k := by
      unfold nx0
      by_cases h0 : r < n - 1
      · simp only [if_pos h0, Option.some.injEq]; omega
      · simp [if_neg h0]
    simp only [if_pos h, if_neg (show ¬ k = r by omega), if_neg hp, pv0]
    by_cases h0 : 0 < k
    · simp only [if_pos h0, if_pos (show k - 1 < r by omega)]
    · simp only [if_neg h0]
  · simp only [if_neg h, if_neg (show ¬ k + 1 = r by omega)]
    by_cases h1 : k = r
    · subst h1
      simp only [nx0, if_pos hk, if_true, pv0]
      by_cases h0 : 0 < k
      · simp only [if_pos h0, if_pos (show k - 1 < k by omega)]
      · simp only [if_neg h0]
    · have hp : ¬ nx0 n r = some (k + 1) := by
        unfold nx0
        by_cases h0 : r < n - 1
        · simp only [if_pos h0, Option.some.injEq]; omega
        · simp [if_neg h0]
      simp only [if_neg hp, pv0, if_pos (show 0 < k + 1 by omega), if_pos (show 0 < k by omega), if_neg (show ¬ k - 1 < r by omega)]
      congr 1; omega

theorem un_lc (n r c : Nat) : (if lc0 n c = some r then pv0 r else lc0 n c) = if c < n then (if c = r then (if 0 < r then some (r - 1) else none) else some c) else none := by
  unfold lc0 pv0
  by_cases h : c < n
  · simp only [if_pos h, Option.some.injEq]
  · simp [if_neg h]

theorem ex_lt (n r k : Nat) (hr : r < n) (hk : k < n - 1) : ex r k < n := by unfold ex; split <;> omega
end Go.Proofs.Ybulkxos
