/-
  THE SEARCH, PLAINLY: breadth first, backwards, over the edges of the precedence graph. No Go in this text.
-/
import Derived.Test.YbulkxosCPl
namespace Go.Proofs.Ybulkxos
set_option linter.unusedSimpArgs false
set_option linter.unusedVariables false

/-- an edge of the precedence graph -/
def Ed (D : Dat) (v u : Nat) : Prop := ∃ i j, i < j ∧ j < D.N ∧ D.O i = D.O j ∧ D.T i ≠ D.T j ∧ (D.W i = true ∨ D.W j = true) ∧ D.T i = v ∧ D.T j = u

def upd (dist : Nat → Int) (v : Nat) (d : Int) (x : Nat) : Int := if x = v then d else dist x
theorem upd_same (dist : Nat → Int) (v : Nat) (d : Int) : upd dist v d v = d := by simp [upd]
theorem upd_other (dist : Nat → Int) {v x : Nat} (d : Int) (h : x ≠ v) : upd dist v d x = dist x := by simp [upd, h]

/-- how many transactions are reached -/
def one (x : Int) : Nat := if 0 ≤ x then 1 else 0
def cntR (dist : Nat → Int) : Nat := one (dist 0) + one (dist 1) + one (dist 2) + one (dist 3) + one (dist 4) + one (dist 5) + one (dist 6) + one (dist 7)
theorem one_le (x : Int) : one x ≤ 1 := by unfold one; split <;> omega
theorem cntR_le (dist : Nat → Int) : cntR dist ≤ 8 := by
  have h0 := one_le (dist 0); have h1 := one_le (dist 1); have h2 := one_le (dist 2); have h3 := one_le (dist 3)
  have h4 := one_le (dist 4); have h5 := one_le (dist 5); have h6 := one_le (dist 6); have h7 := one_le (dist 7)
  unfold cntR; omega
theorem cntR_upd (dist : Nat → Int) (v : Nat) (d : Int) (hv : v < 8) (h : dist v = -1) (hd : 0 ≤ d) : cntR (upd dist v d) = cntR dist + 1 := by
  have e1 : one (upd dist v d v) = 1 := by rw [upd_same]; unfold one; rw [if_pos hd]
  have e0 : one (dist v) = 0 := by rw [h]; rfl
  obtain rfl | rfl | rfl | rfl | rfl | rfl | rfl | rfl : v = 0 ∨ v = 1 ∨ v = 2 ∨ v = 3 ∨ v = 4 ∨ v = 5 ∨ v = 6 ∨ v = 7 := by omega
  all_goals (unfold cntR; simp only [e1, e0]; simp [upd]; try omega)

structure Base (D : Dat) (tg : Nat) (dist : Nat → Int) : Prop where
  tgl : tg < 8
  tg0 : dist tg = 0
  zero : ∀ v, v < 8 → dist v = 0 → v = tg
  lo : ∀ v, v < 8 → -1 ≤ dist v
  back : ∀ v, v < 8 → 0 < dist v → ∃ u, u < 8 ∧ Ed D v u ∧ dist u = dist v - 1
  cnt : ∀ v, v < 8 → dist v < cntR dist

def Done (D : Dat) (dist : Nat → Int) (u : Nat) : Prop := ∀ v, v < 8 → Ed D v u → 0 ≤ dist v ∧ dist v ≤ dist u + 1

structure Out (D : Dat) (tg : Nat) (dist : Nat → Int) (qs : List Nat) : Prop where
  base : Base D tg dist
  sorted : qs.Pairwise (fun a b => dist a ≤ dist b)
  qok : ∀ x, x ∈ qs → x < 8 ∧ 0 ≤ dist x ∧ ∀ v, v < 8 → dist v ≤ dist x + 1
  done : ∀ u, u < 8 → 0 ≤ dist u → u ∉ qs → Done D dist u

structure In (D : Dat) (tg : Nat) (dist : Nat → Int) (qs : List Nat) (u : Nat) : Prop where
  base : Base D tg dist
  sorted : qs.Pairwise (fun a b => dist a ≤ dist b)
  qok : ∀ x, x ∈ qs → x < 8 ∧ dist u ≤ dist x
  ul : u < 8
  u0 : 0 ≤ dist u
  cur : ∀ v, v < 8 → dist v ≤ dist u + 1
  done : ∀ x, x < 8 → 0 ≤ dist x → x ∉ qs → x ≠ u → Done D dist x

theorem Out.start (D : Dat) (tg : Nat) (h : tg < 8) : Out D tg (upd (fun _ => -1) tg 0) [tg] := by
  have e : ∀ v, v ≠ tg → upd (fun _ => (-1 : Int)) tg 0 v = -1 := fun v hv => upd_other _ _ hv
  have e0 : upd (fun _ => (-1 : Int)) tg 0 tg = 0 := upd_same _ _ _
  have hc : cntR (upd (fun _ => (-1 : Int)) tg 0) = 1 := by
    have := cntR_upd (fun _ => (-1 : Int)) tg 0 h rfl (Int.le_refl _)
    rw [this]; rfl
  refine ⟨⟨h, e0, fun v _ hz => ?_, fun v _ => ?_, fun v _ hp => ?_, fun v _ => ?_⟩, List.pairwise_singleton _ _, fun x hx => ?_, fun u _ hu hn => ?_⟩
  · by_cases g : v = tg
    · exact g
    · rw [e v g] at hz; omega
  · by_cases g : v = tg
    · rw [g, e0]; omega
    · rw [e v g]; exact Int.le_refl _
  · by_cases g : v = tg
    · rw [g, e0] at hp; omega
    · rw [e v g] at hp; omega
  · rw [hc]
    by_cases g : v = tg
    · rw [g, e0]; omega
    · rw [e v g]; omega
  · obtain rfl : x = tg := by simpa using hx
    refine ⟨h, by rw [e0]; omega, fun v _ => ?_⟩
    rw [e0]
    by_cases g : v = x
    · rw [g, e0]; omega
    · rw [e v g]; omega
  · have g : u ≠ tg := by simpa using hn
    rw [e u g] at hu; omega

theorem Out.pop {D : Dat} {tg u : Nat} {dist : Nat → Int} {qs : List Nat} (h : Out D tg dist (u :: qs)) : In D tg dist qs u := by
  obtain ⟨h1, h2⟩ := List.pairwise_cons.1 h.sorted
  obtain ⟨u1, u2, u3⟩ := h.qok u (by simp)
  refine ⟨h.base, h2, fun x hx => ⟨(h.qok x (by simp [hx])).1, h1 x hx⟩, u1, u2, u3, fun x hx h0 hn hne => h.done x hx h0 (by simp [hn, hne])⟩

theorem In.push {D : Dat} {tg u v : Nat} {dist : Nat → Int} {qs : List Nat} (h : In D tg dist qs u) (hv : v < 8) (hd : dist v = -1) (he : Ed D v u) : In D tg (upd dist v (dist u + 1)) (qs ++ [v]) u ∧ cntR (upd dist v (dist u + 1)) = cntR dist + 1 := by
  have hu0 := h.u0
  have huv : u ≠ v := fun e => by rw [e, hd] at hu0; omega
  have e0 : upd dist v (dist u + 1) v = dist u + 1 := upd_same _ _ _
  have e : ∀ x, x ≠ v → upd dist v (dist u + 1) x = dist x := fun x hx => upd_other _ _ hx
  have eu := e u huv
  have hc := cntR_upd dist v (dist u + 1) hv hd (by omega)
  have hge : ∀ x, x < 8 → 0 ≤ dist x → upd dist v (dist u + 1) x = dist x := fun x _ hx => e x (fun g => by rw [g, hd] at hx; omega)
  have qge : ∀ x, x ∈ qs → upd dist v (dist u + 1) x = dist x := fun x hx => hge x (h.qok x hx).1 (by have := (h.qok x hx).2; omega)
  refine ⟨⟨⟨h.base.tgl, ?_, fun x hx hz => ?_, fun x hx => ?_, fun x hx hp => ?_, fun x hx => ?_⟩, ?_, fun x hx => ?_, h.ul, by rw [eu]; exact hu0, fun x hx => ?_, fun x hx h0 hn hne => ?_⟩, hc⟩
  · rw [hge tg h.base.tgl (by rw [h.base.tg0]; exact Int.le_refl _)]; exact h.base.tg0
  · by_cases g : x = v
    · rw [g, e0] at hz; omega
    · rw [e x g] at hz; exact h.base.zero x hx hz
  · by_cases g : x = v
    · rw [g, e0]; omega
    · rw [e x g]; exact h.base.lo x hx
  · by_cases g : x = v
    · subst g
      exact ⟨u, h.ul, he, by rw [e0, eu]; omega⟩
    · rw [e x g] at hp ⊢
      obtain ⟨y, y1, y2, y3⟩ := h.base.back x hx hp
      exact ⟨y, y1, y2, by rw [hge y y1 (by omega)]; exact y3⟩
  · rw [hc]
    by_cases g : x = v
    · rw [g, e0]
      have := h.base.cnt u h.ul
      omega
    · rw [e x g]
      have := h.base.cnt x hx
      omega
  · refine List.pairwise_append.2 ⟨?_, List.pairwise_singleton _ _, fun a ha b hb => ?_⟩
    · refine List.Pairwise.imp_of_mem (fun {a b} ha hb hab => ?_) h.sorted
      rw [qge a ha, qge b hb]; exact hab
    · obtain rfl : b = v := by simpa using hb
      rw [qge a ha, e0]
      exact h.cur a (h.qok a ha).1
  · rw [eu]
    rcases List.mem_append.1 hx with g | g
    · rw [qge x g]; exact h.qok x g
    · obtain rfl : x = v := by simpa using g
      exact ⟨hv, by rw [e0]; omega⟩
  · rw [eu]
    by_cases g : x = v
    · rw [g, e0]; omega
    · rw [e x g]; exact h.cur x hx
  · have hxv : x ≠ v := fun g => hn (by simp [g])
    rw [e x hxv] at h0
    have hd' := h.done x hx h0 (fun g => hn (by simp [g])) hne
    intro y hy hey
    obtain ⟨d1, d2⟩ := hd' y hy hey
    rw [hge y hy d1, e x hxv]
    exact ⟨d1, d2⟩

theorem In.finish {D : Dat} {tg u : Nat} {dist : Nat → Int} {qs : List Nat} (h : In D tg dist qs u) (hf : ∀ v, v < 8 → Ed D v u → 0 ≤ dist v) : Out D tg dist qs := by
  refine ⟨h.base, h.sorted, fun x hx => ⟨(h.qok x hx).1, by have := (h.qok x hx).2; have := h.u0; omega, fun v hv => ?_⟩, fun x hx h0 hn => ?_⟩
  · have := h.cur v hv
    have := (h.qok x hx).2
    omega
  · by_cases g : x = u
    · subst g
      exact fun v hv he => ⟨hf v hv he, h.cur v hv⟩
    · exact h.done x hx h0 hn g

/-- WHAT THE SEARCH COMES TO -/
structure Good (D : Dat) (tg : Nat) (dist : Nat → Int) : Prop where
  base : Base D tg dist
  hi : ∀ v, v < 8 → dist v ≤ 7
  fwd : ∀ v u, v < 8 → u < 8 → Ed D v u → 0 ≤ dist u → 0 ≤ dist v ∧ dist v ≤ dist u + 1

theorem Out.good {D : Dat} {tg : Nat} {dist : Nat → Int} (h : Out D tg dist []) : Good D tg dist :=
  ⟨h.base, fun v hv => by have := h.base.cnt v hv; have := cntR_le dist; omega, fun v u hv hu he h0 => h.done u hu h0 (by simp) v hv he⟩

/-- what has been looked at when all earlier accesses that conflict with u's are reached -/
theorem all_seen {D : Dat} {u : Nat} {dist : Nat → Int}
    (h : ∀ x, x < D.N → D.T x = u → ∀ j, j < D.plc (if D.W x = true then 0 else 1) x → 0 ≤ dist (D.T (nth (D.inL (if D.W x = true then 0 else 1) (D.O x)) D.N j))) : ∀ v, v < 8 → Ed D v u → 0 ≤ dist v := by
  rintro v _ ⟨i, j, hij, hjN, hO, hT, hW, rfl, hTj⟩
  have key : ∀ k, D.inL k (D.O j) i = true → (if D.W j = true then 0 else 1) = k → 0 ≤ dist (D.T i) := by
    intro k hi hk
    have h1 := h j hjN hTj (idx (D.inL k (D.O j)) i) (by rw [hk]; exact idx_lt _ hi hij)
    rw [hk, nth_idx _ hi (by omega)] at h1
    exact h1
  by_cases hj : D.W j = true
  · exact key 0 (by simp [Dat.inL, hO]) (by rw [if_pos hj])
  · have hi : D.W i = true := hW.resolve_right hj
    exact key 1 (by simp [Dat.inL, hO, hi]) (by rw [if_neg hj])

/-- an entry ahead of u's access that is not reached gives an edge -/
theorem edge_of {D : Dat} {u x j : Nat} {dist : Nat → Int} (hx : x < D.N) (hu : D.T x = u) (hu0 : 0 ≤ dist u) (hj : j < D.plc (if D.W x = true then 0 else 1) x)
    (hn : ¬ 0 ≤ dist (D.T (nth (D.inL (if D.W x = true then 0 else 1) (D.O x)) D.N j))) : Ed D (D.T (nth (D.inL (if D.W x = true then 0 else 1) (D.O x)) D.N j)) u := by
  generalize hk : (if D.W x = true then 0 else 1) = k at *
  have hjl : j < idx (D.inL k (D.O x)) D.N := Nat.lt_of_lt_of_le hj (idx_mono _ (by omega))
  obtain ⟨m1, m2, m3⟩ := nth_ok (D.inL k (D.O x)) hjl
  have hlt : nth (D.inL k (D.O x)) D.N j < x := by
    rcases Nat.lt_or_ge (nth (D.inL k (D.O x)) D.N j) x with g | g
    · exact g
    · have := idx_mono (D.inL k (D.O x)) g
      unfold Dat.plc at hj
      omega
  have hin : D.O (nth (D.inL k (D.O x)) D.N j) = D.O x ∧ (k = 0 ∨ D.W (nth (D.inL k (D.O x)) D.N j) = true) := by simpa [Dat.inL] using m2
  refine ⟨nth (D.inL k (D.O x)) D.N j, x, hlt, hx, hin.1, fun e => hn (by rw [e, hu]; exact hu0), ?_, rfl, hu⟩
  rcases hin.2 with g | g
  · right
    by_cases hw : D.W x = true
    · exact hw
    · rw [if_neg hw] at hk; omega
  · exact .inl g
end Go.Proofs.Ybulkxos
