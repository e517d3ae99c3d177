/-
  THE WALK of reachability's closure edge (17).
-/
import Derived.Test.YbulkxosCSubM
import Derived.Test.YbulkxosCReg
import Derived.Deep.DeepCutAuto
import Derived.Deep.RegionHeld3
namespace Go.Proofs.Ybulkxos
open Go.RowKit
set_option linter.unusedVariables false
set_option linter.unusedSimpArgs false

/-- 'succ[f] = append(succ[f], t)', in the family's words -/
def addL (ls : Nat → List Nat) (f t : Nat) : Nat → List Nat := if f ≠ t then putV ls f (ls f ++ [t]) else ls

set_option maxHeartbeats 4000000 in
set_option maxRecDepth 100000 in
theorem edge_any (w0 w : World) (lw : Nat → Int) (ls : Nat → List Nat) (val : Nat → Value) (f t vb : Nat) (cs : Array Value) (h : RS w0 w lw ls val) (hV : w.heap[vb]? = some (.cells cs 60 (0, 0))) (hvb : w0.heap.size + 4 ≤ vb) (hf : f < 8) (ht : t < 8) (hl : (ls f).length ≤ 3000000) :
    Calls Yba.prog 17 #[.int .i32 (f : Nat), .int .i32 (t : Nat), .pointer (some ⟨w0.heap.size + 1, 0, none⟩)] w fun e w' => e = .returned (.tuple #[]) ∧ (∃ val', RS w0 w' lw (addL ls f t) val' ∧ ∀ s, 8 ≤ s → val' s = val s) ∧ w'.heap[vb]? = some (.cells cs 60 (0, 0)) := by
  by_cases hft : f = t
  · have hb : ((f : Int) != (t : Int)) = false := by simp [hft]
    have HE : Hid ((∃ val', RS w0 w lw (addL ls f t) val' ∧ ∀ s, 8 ≤ s → val' s = val s) ∧ w.heap[vb]? = some (.cells cs 60 (0, 0))) := ⟨⟨val, by unfold addL; rw [if_neg (by simpa using hft)]; exact ⟨h, fun _ _ => rfl⟩⟩, hV⟩
    clear hft h hV
    go_enter Yba.func17, Yba.ntmps17
    go_wp2
    go_end0
    exact ⟨rfl, HE.out⟩
  · have hb : ((f : Int) != (t : Int)) = true := by simp; omega
    have hFW := (h.alloc (.cells #[.int .i32 (t : Nat)] 21)).drew
    have hnb : ∀ j u, ([.int .i32 (t : Nat)] : List Value)[j]? = some u → ((w.alloc (.cells #[.int .i32 (t : Nat)] 21)).drew).cell? ((⟨w.heap.size, 0, none⟩ : Addr).add j) = some u := World.news_of_block (w := (w.alloc (.cells #[.int .i32 (t : Nat)] 21)).drew) (B := w.heap.size) (cs := #[.int .i32 (t : Nat)]) (t := 21) (fr := (0, 0)) (heap_alloc_new _ _)
    have hz : ((w.alloc (.cells #[.int .i32 (t : Nat)] 21)).drew).heap.size = w.heap.size + 1 := by simp
    have hone : ∀ u ∈ ([.int .i32 (t : Nat)] : List Value), u.oneCell' = true := by intro u hu; simp at hu; subst hu; rfl
    have hsz := h.size
    have r1 := h.sv.cell (i := 0) (by omega)
    have r2 := h.sr.cell hf
    have hown0 := hFW.own f (by omega)
    have hm1 : (ls f).length + 1 ≤ maxLen := by unfold maxLen; omega
    have hm2 : ((ls f).length + 1) * 4 ≤ 140737488355328 := by omega
    have hm3 : w0.heap.size + 4 ≤ ((w.alloc (.cells #[.int .i32 (t : Nat)] 21)).drew).heap.size := by rw [hz]; omega
    have hAlt : w0.heap.size < w.heap.size := by omega
    have hBlt : w0.heap.size + 1 < w.heap.size := by omega
    have hfI : (f : Int) < 8 := by omega
    have hAf : ∀ w3, ((w.alloc (.cells #[.int .i32 (t : Nat)] 21)).drew).grownBy w3 (val f).ownBlock → w3.cell? ⟨w0.heap.size + 1, 0, none⟩ = some (.slice (some ⟨w0.heap.size, 0, none⟩) 8 8) ∧ w3.cell? ⟨w0.heap.size, f, none⟩ = some (val f) ∧ w3.frozen? ⟨w0.heap.size, f, none⟩ = false := by
      intro w3 hg
      obtain ⟨q1, q2, q3, q4⟩ := hFW.hdrs_of hg (hFW.own_ge _ (by omega))
      exact ⟨q2.cell (i := 0) (by omega), q1.cell hf, q1.frozen f⟩
    have HEnd : Hid (∀ (g cp : Nat) (w3 : World), w3.ownsRow (w0.heap.size + 4) 21 1 (.slice (some ⟨g, 0, none⟩) ((ls f).length + 1) cp) ((ls f).length + 1) (ints (ls f) ++ [.int .i32 (t : Nat)]) → ((w.alloc (.cells #[.int .i32 (t : Nat)] 21)).drew).grownBy w3 (val f).ownBlock → ((val f).ownBlock = some g ∨ g = w.heap.size + 1) →
        (∃ val', RS w0 (w3.setCell ⟨w0.heap.size, f, none⟩ (.slice (some ⟨g, 0, none⟩) ((ls f).length + 1) cp)) lw (addL ls f t) val' ∧ ∀ s, 8 ≤ s → val' s = val s) ∧ (w3.setCell ⟨w0.heap.size, f, none⟩ (.slice (some ⟨g, 0, none⟩) ((ls f).length + 1) cp)).heap[vb]? = some (.cells cs 60 (0, 0))) := by
      intro g cp w3 hown hgrow hat
      have hv : ((w.alloc (.cells #[.int .i32 (t : Nat)] 21)).drew).heap[vb]? = some (.cells cs 60 (0, 0)) := (Deep.blk_alloc_lt _ _ _ (Array.getElem?_eq_some_iff.1 hV).1).trans hV
      have hv2 := (hgrow.block vb (Array.getElem?_eq_some_iff.1 hv).1 (hFW.far hv (by decide) _ (by omega))).trans hv
      refine ⟨⟨putV val f (.slice (some ⟨g, 0, none⟩) ((ls f).length + 1) cp), ?_, fun s hs => putV_other _ _ (by omega)⟩, (Deep.blk_setCell_other _ _ _ _ (by show vb ≠ w0.heap.size; omega)).trans hv2⟩
      unfold addL
      rw [if_pos hft]
      refine hFW.put f w0.heap.size f (by omega) (.inl ⟨hf, rfl, rfl⟩) (ls f ++ [t]) _ ?_ hgrow ?_
      · simpa [ints] using hown
      · rcases hat with e | e
        · exact .inr (.inl (by rw [e]; rfl))
        · exact .inr (.inr (.inl (by rw [e, hz]; rfl)))
    clear h hFW hV hft
    go_enter Yba.func17, Yba.ntmps17
    obtain ⟨i0, hi, hz0, hz1, hz2⟩ := info_parts Yba.info21
    go_upto_region 1 with fail
    go_region_law (first | (refine step_append_lies _ rfl (.tmp 13) (.tmp 15) 50 rfl (w0.heap.size + 4) 21 i0 _ 1 4 Yba.underlying50 hi hz0 hz1 hz2 rfl (by decide) (val f) (ls f).length (ints (ls f)) rfl hown0 ⟨w.heap.size, 0, none⟩ 1 1 [.int .i32 (t : Nat)] rfl rfl hnb hone (by decide) hm1 hm2 hm3 (w.heap.size + 1) hz ?_; intro g cp w3 hown hgrow hat hlt; obtain ⟨q1, q2, q3⟩ := hAf w3 hgrow))
    all_goals clear hnb hz hone hown0 hm1 hm2 hm3 hAf hi hz0 hz1 hz2
    all_goals go_wp2_with fail
    all_goals go_end0
    all_goals exact ⟨rfl, HEnd.out g cp w3 hown hgrow hat⟩
end Go.Proofs.Ybulkxos
