/-
  A slice of operations that came in, opened.
-/
import Derived.Test.YbulkxosCBuild
import Derived.ProofKit
import Derived.Deep.SlicePairs
import Derived.OpenShut
namespace Go.Proofs.Ybulkxos
open Go.ChangeShapes Go.WideShapes Go.ChangeAt Go.RowKit Go.Deep
set_option linter.unusedVariables false

theorem Yba.cells65 : Yba.prog.cellsOf 65 = 3 := by kernel_rfl
theorem Yba.cells5 : Yba.prog.cellsOf 5 = 1 := by kernel_rfl
theorem Yba.cells4 : Yba.prog.cellsOf 4 = 1 := by kernel_rfl

set_option maxRecDepth 10000 in
theorem open_ops {H : Type} {enc : TypeId × Value → H} {w : World} {base : Nat} {spare : Nat → Bool} {held : Bool} {fuel : Nat} {oa : Option Addr} {n cap : Nat} {x : DataW H × List MemPlace}
    (h : DataW.trod enc Yba.prog w base spare held fuel 47 [.slice oa n cap] = some x) : n ≤ maxLen ∧ ∃ p q W, OpsAt w oa n p q W := by
  rcases open_slice Yba.underlying47 h with ⟨hcs, _⟩ | ⟨a, len, cap', m, k, D, Pl, hcs, hb, hl, hm, hmm, _, hel⟩
  · simp at hcs
    obtain ⟨rfl, rfl, rfl⟩ := hcs
    exact ⟨Nat.zero_le _, fun _ => 0, fun _ => 0, fun _ => false, fun x hx => absurd hx (by omega)⟩
  · simp at hcs
    obtain ⟨rfl, rfl, rfl⟩ := hcs
    refine ⟨Nat.le_trans hl hm, ?_⟩
    have hnm : n ≤ m := by rw [hmm]; split <;> omega
    have hspot : 0 < n → a.spot = none := fun h0 => by
      obtain ⟨cs', h1, _⟩ := hel 0 (by omega)
      rw [Yba.cells65] at h1
      obtain ⟨_, hlen, hcell⟩ := World.cells?_some h1
      match cs', hlen with
      | [v0, v1, v2], _ =>
        have c0 := hcell 0 (by omega)
        simp [Addr.add] at c0
        exact World.cell?_spot c0
    have each : ∀ i, i < n → ∃ r : Nat × Nat × Bool, a.spot = none ∧ w.cell? ⟨a.block, a.off + i * 3, none⟩ = some (.int .u8 (r.1 : Nat)) ∧ w.cell? ⟨a.block, a.off + i * 3 + 1, none⟩ = some (.int .u8 (r.2.1 : Nat)) ∧ w.cell? ⟨a.block, a.off + i * 3 + 2, none⟩ = some (.bool r.2.2) ∧ r.1 < 256 ∧ r.2.1 < 256 := by
      intro i hi
      obtain ⟨cs', h1, h2⟩ := hel i (by omega)
      rw [Yba.cells65] at h1
      obtain ⟨_, hlen, hcell⟩ := World.cells?_some h1
      obtain ⟨xs, k', hk, _, _, hxl, hf⟩ := DataW.trod_struct Yba.underlying65 h2
      match cs', hlen with
      | [v0, v1, v2], _ =>
        match xs, hxl with
        | [y0, y1, y2], _ =>
        have g0 := hf 0 _ rfl
        have g1 := hf 1 _ rfl
        have g2 := hf 2 _ rfl
        simp [Yba.cells5, Yba.cells4] at g0 g1 g2
        obtain ⟨n0, e0, _, f0⟩ := DataW.trod_int Yba.underlying5 g0
        obtain ⟨n1, e1, _, f1⟩ := DataW.trod_int Yba.underlying5 g1
        obtain ⟨b2, e2, _⟩ := DataW.trod_bool Yba.underlying4 g2
        simp at e0 e1 e2
        subst e0 e1 e2
        have c0 := hcell 0 (by omega)
        have c1 := hcell 1 (by omega)
        have c2 := hcell 2 (by omega)
        rw [add_add] at c0 c1 c2
        have b0 := bounds_u8 f0
        have b1 := bounds_u8 f1
        simp at c0 c1 c2
        have hsp1 : a.spot = none := hspot (by omega)
        obtain ⟨b, o, sp⟩ := a
        simp only at hsp1
        subst hsp1
        rw [add_plain] at c0 c1 c2
        refine ⟨(n0.toNat, n1.toNat, b2), rfl, ?_, ?_, ?_, by simp; omega, by simp; omega⟩
        · simpa [Int.toNat_of_nonneg b0.1] using c0
        · simpa [Int.toNat_of_nonneg b1.1, Nat.add_assoc] using c1
        · simpa [Nat.add_assoc] using c2
    obtain ⟨r, hr⟩ := choose_lt each
    refine ⟨fun i => (r i).1, fun i => (r i).2.1, fun i => (r i).2.2, fun i hi => ⟨a.block, a.off, ?_, (hr i hi).2⟩⟩
    obtain ⟨b, o, sp⟩ := a
    have := (hr i hi).1
    simp only at this
    subst this
    rfl
end Go.Proofs.Ybulkxos
