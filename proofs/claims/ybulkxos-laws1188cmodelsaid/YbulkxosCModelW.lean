/-
  THE WALK of LawS1188CModel (5).
-/
import Derived.Test.YbulkxosCModelPl
import Derived.Test.YbulkxosCBuild
import Derived.BigQuiet
namespace Go.Proofs.Ybulkxos
open Go.RowKit
set_option linter.unusedVariables false
set_option linter.unusedSimpArgs false
open Classical

structure MS (w2 wr : World) (D : Dat) (i j : Nat) : Prop where
  bel : Below w2.heap.size w2 wr
  size : w2.heap.size < wr.heap.size
  edge : wr.rowIs w2.heap.size 53 64 (edgeF D i j)

theorem MS.start (w2 : World) (D : Dat) : MS w2 (w2.alloc (.cells (Array.replicate 64 (.bool false)) 53)) D 0 1 :=
  ⟨(Below.refl _ _).alloc (Nat.le_refl _) _, by simp, World.rowIs_alloc w2 _ 53 _ (fun j hj => by
    rw [Array.size_replicate] at hj
    have e : ¬ EdP D 0 1 (j / 8) (j % 8) := EdP.start _ _
    simp [edgeF, e, hj])⟩
theorem MS.keep {w2 wr w' : World} {D : Dat} {i j : Nat} (h : MS w2 wr D i j) (hb : Below wr.heap.size wr w') : MS w2 w' D i j :=
  ⟨h.bel.trans (hb.mono (by have := h.size; omega)), Nat.lt_of_lt_of_le h.size hb.size, Below.row' hb h.edge⟩
theorem MS.next {w2 wr : World} {D : Dat} {i : Nat} (h : MS w2 wr D i D.N) : MS w2 wr D (i + 1) (i + 1 + 1) :=
  ⟨h.bel, h.size, h.edge.congr (fun c _ => by unfold edgeF; simp only [EdP.next])⟩
theorem MS.no {w2 wr : World} {D : Dat} {i j : Nat} (h : MS w2 wr D i j) (hij : i < j) (hj : j < D.N) (hc : ¬ cond D i j) : MS w2 wr D i (j + 1) :=
  ⟨h.bel, h.size, h.edge.congr (fun c _ => by unfold edgeF; simp only [EdP.step hij hj, hc, false_and, or_false])⟩
theorem MS.yes {w2 wr : World} {D : Dat} {i j : Nat} (h : MS w2 wr D i j) (hij : i < j) (hj : j < D.N) (hc : cond D i j) (ht : D.T j < 8) : MS w2 (wr.setCell ⟨w2.heap.size, D.T i * 8 + D.T j, none⟩ (.bool true)) D i (j + 1) :=
  ⟨h.bel.setCell (by exact Nat.le_refl _) _, by simpa using h.size, (h.edge.set _ _).congr (fun c _ => by
    unfold edgeF
    by_cases e : c = D.T i * 8 + D.T j
    · rw [if_pos e]
      have : EdP D i (j + 1) (c / 8) (c % 8) := (EdP.step hij hj _ _).2 (.inr ⟨hc, by omega, by omega⟩)
      simp [this]
    · rw [if_neg e]
      have : EdP D i (j + 1) (c / 8) (c % 8) ↔ EdP D i j (c / 8) (c % 8) := (EdP.step hij hj _ _).trans ⟨fun x => x.resolve_right (fun y => e (by omega)), fun x => .inl x⟩
      simp only [this])⟩

/-- what the two loops lay in p and q -/
structure PQ (w : World) (D : Dat) (b x : Nat) : Prop where
  t : w.cell? ⟨b, 0, none⟩ = some (.int .i32 (D.T x))
  o : w.cell? ⟨b, 1, none⟩ = some (.int .i32 (D.O x))
  v : w.cell? ⟨b, 2, none⟩ = some (.bool (D.W x))

/-- the layered search's own row -/
structure LW (w3 wr : World) (f : Nat → Int) : Prop where
  bel : Below w3.heap.size w3 wr
  row : wr.rowIs w3.heap.size 61 8 (fun x => .int .i32 (f x))
theorem LW.start (w3 : World) : LW w3 (w3.alloc (.cells #[.int .i32 0, .int .i32 0, .int .i32 0, .int .i32 0, .int .i32 0, .int .i32 0, .int .i32 0, .int .i32 0] 61)) (fun x => if x < 0 then -1 else 0) :=
  ⟨(Below.refl _ _).alloc (Nat.le_refl _) _, World.rowIs_alloc w3 _ 61 _ (fun j hj => by simp at hj; match j, hj with | 0, _ => rfl | 1, _ => rfl | 2, _ => rfl | 3, _ => rfl | 4, _ => rfl | 5, _ => rfl | 6, _ => rfl | 7, _ => rfl)⟩
theorem LW.set {w3 wr : World} {f f' : Nat → Int} (h : LW w3 wr f) (v : Nat) (d : Int) (hf : ∀ x, x < 8 → f' x = if x = v then d else f x) : LW w3 (wr.setCell ⟨w3.heap.size, v, none⟩ (.int .i32 d)) f' :=
  ⟨h.bel.setCell (by exact Nat.le_refl _) _, (h.row.set v _).congr (fun x hx => by rw [hf x hx]; by_cases e : x = v <;> simp [e])⟩
theorem LW.congr {w3 wr : World} {f f' : Nat → Int} (h : LW w3 wr f) (hf : ∀ x, x < 8 → f' x = f x) : LW w3 wr f' :=
  ⟨h.bel, h.row.congr (fun x hx => by rw [hf x hx])⟩

set_option maxHeartbeats 4000000 in
set_option maxRecDepth 100000 in
theorem model_any (w0 : World) (oa : Option Addr) (cap n tb : Nat) (p q : Nat → Nat) (W : Nat → Bool) (htb : tb < 256) (hops : OpsAt w0 oa n p q W) :
    Calls Yba.prog 5 #[.slice oa n cap, .int .u8 (tb : Nat)] w0 fun e w' => e = .returned (.bool true) ∧ Below w0.heap.size w0 w' := by
  go_enter Yba.func5, Yba.ntmps5
  by_cases hbig : 1024 < n
  · go_wp2
    go_ret
    exact ⟨rfl, Below.refl _ _⟩
  · obtain ⟨D, hD⟩ : ∃ D : Dat, D = ⟨fun x => p x % 8, fun x => q x % 4, W, n⟩ := ⟨_, rfl⟩
    have hN : n = D.N := by rw [hD]
    have hWW : W = D.W := by rw [hD]
    have hT : ∀ x, x < D.N → D.T x = p x % 8 := fun x _ => by rw [hD]
    have hO : ∀ x, x < D.N → D.O x = q x % 4 := fun x _ => by rw [hD]
    clear hD
    subst hN hWW
    go_wp2_with fail
    refine (build_any w0 oa cap D p q hops (by omega) hT hO).mono ?_
    rintro e w1 ⟨M, rfl, hA, hb1⟩
    clear hops hT hO
    go_wp2_with fail
    rw [show ((tb : Int) % 8) = ((tb % 8 : Nat) : Int) by omega]
    have htg : tb % 8 < 8 := by omega
    generalize tb % 8 = tg at htg ⊢
    refine (dist_any w1 w0.heap.size D M tg hA htg).mono ?_
    rintro e w2 ⟨g, rfl, hG, hrow, hb2⟩
    have hA2 := hA.below hb2
    have HB : Hid (Below w0.heap.size w0 w2) := hb1.trans (hb2.mono hb1.size)
    have HR : Hid (w2.rowIs (w1.heap.size + 1) 21 8 fun v => .int .i32 (g v)) := hrow
    clear hA hb1 hb2 hrow
    generalize w1.heap.size + 1 = gb at HR ⊢
    go_upto_region 8 with fail
    go_loopg [9] D.N (fun gg x wr => ∃ i : Nat, i ≤ D.N ∧ gg = D.N - i ∧ x = .int .i64 i ∧ Hid (MS w2 wr D i (i + 1)))
    case atStart => exact ⟨0, by omega, by omega, rfl, (MS.start w2 D : MS w2 _ D 0 1)⟩
    case round =>
      obtain ⟨G, hGG⟩ : ∃ G, G = gk := ⟨_, rfl⟩
      subst hGG
      obtain ⟨i, hi, hgk, rfl, hM⟩ := hrel
      have HGK : Hid (G = D.N - i) := hgk
      clear hgk
      have hAr := hA2.below hM.out.bel
      have c0 := hAr.row.cell (i := 0) (by omega)
      simp only [accF, if_true] at c0
      by_cases hlt : i < D.N
      · obtain ⟨l0, _⟩ := hAr.list i hlt
        rw [l0] at c0
        have HL0 : Hid (M.la = some ⟨M.lb, 0, none⟩) := l0
        clear l0
        go_upto_region 11 with fail
        clear c0
        go_loopg [10] (D.N - (i + 1)) (fun gg x wr => ∃ j : Nat, i < j ∧ j ≤ D.N ∧ gg = D.N - j ∧ x = .int .i64 j ∧ Hid (MS w2 wr D i j))
        case atStart => exact ⟨i + 1, by omega, by omega, rfl, by go_num, hM.out⟩
        case round =>
          clear hM hAr
          obtain ⟨G2, hGG⟩ : ∃ G2, G2 = gk := ⟨_, rfl⟩
          subst hGG
          obtain ⟨j, hij, hj, hgk, rfl, hM⟩ := hrel
          have HG2 : Hid (G2 = D.N - j) := hgk
          clear hgk
          have hAr := hA2.below hM.out.bel
          have c0 := hAr.row.cell (i := 0) (by omega)
          simp only [accF, if_true] at c0
          rw [HL0.out] at c0
          by_cases hlt2 : j < D.N
          · obtain ⟨_, a0, a1, a2, a3, a4⟩ := hAr.list i hlt
            obtain ⟨_, b0, b1, b2, b3, b4⟩ := hAr.list j hlt2
            have hTi := hAr.tlt i hlt
            have hTj := hAr.tlt j hlt2
            have hiI : (i : Int) < (D.N : Int) := by omega
            have hjI : (j : Int) < (D.N : Int) := by omega
            have ne0 := World.new_ne wr _ c0
            have ne1 := World.new_ne wr _ a0
            have hsz := hM.out.size
            go_upto_region 13 with fail
            go_cut [11, 12] from 41 to 89 (fun s11 s12 wx => ∃ pb qb, s11 = .pointer (some ⟨pb, 0, none⟩) ∧ s12 = .pointer (some ⟨qb, 0, none⟩) ∧ Hid (MS w2 wx D i j ∧ PQ wx D pb i ∧ PQ wx D qb j ∧ w2.heap.size ≠ pb ∧ w2.heap.size ≠ qb))
            case first =>
              go_region_held3 (fun w' => w'.cell? ⟨w0.heap.size, 0, none⟩ = some (.slice (some ⟨M.lb, 0, none⟩) D.N M.lc) ∧ w'.cell? ⟨M.lb, i * 5, none⟩ = some (.int .i32 (D.T i)) ∧ w'.cell? ⟨M.lb, i * 5 + 1, none⟩ = some (.int .i32 (D.O i)) ∧ w'.cell? ⟨M.lb, i * 5 + 2, none⟩ = some (.bool (D.W i)) ∧ w'.cell? ⟨M.lb, i * 5 + 3, none⟩ = some (.int .i32 (D.plc 0 i)) ∧ w'.cell? ⟨M.lb, i * 5 + 4, none⟩ = some (.int .i32 (D.plc 1 i)) ∧
                w'.cell? ⟨M.lb, j * 5, none⟩ = some (.int .i32 (D.T j)) ∧ w'.cell? ⟨M.lb, j * 5 + 1, none⟩ = some (.int .i32 (D.O j)) ∧ w'.cell? ⟨M.lb, j * 5 + 2, none⟩ = some (.bool (D.W j)) ∧ w'.cell? ⟨M.lb, j * 5 + 3, none⟩ = some (.int .i32 (D.plc 0 j)) ∧ w'.cell? ⟨M.lb, j * 5 + 4, none⟩ = some (.int .i32 (D.plc 1 j))) (go_keep) (fail)
              all_goals clear c0 a0 a1 a2 a3 a4 b0 b1 b2 b3 b4 ne0 ne1
              all_goals go_wp2_with fail
              all_goals go_meet
              · refine ⟨wr.heap.size, wr.heap.size + 1, rfl, rfl, hM.out.keep ((((Below.refl _ _).alloc (Nat.le_refl _) _).alloc (by simp) _).drew), ⟨by simp, by simp, by simp⟩, ⟨by simp, by simp, by simp⟩, by omega, by omega⟩
              · refine ⟨wr.heap.size + 1, wr.heap.size, rfl, rfl, hM.out.keep ((((Below.refl _ _).alloc (Nat.le_refl _) _).alloc (by simp) _).drew), ⟨by simp, by simp, by simp⟩, ⟨by simp, by simp, by simp⟩, by omega, by omega⟩
            case rest =>
              obtain ⟨pb, qb, rfl, rfl, hH⟩ := hcut
              clear c0 a0 a1 a2 a3 a4 b0 b1 b2 b3 b4 ne0 ne1 hM hAr hsz
              have p0 := hH.out.2.1.t
              have p1 := hH.out.2.1.o
              have p2 := hH.out.2.1.v
              have q0 := hH.out.2.2.1.t
              have q1 := hH.out.2.2.1.o
              have q2 := hH.out.2.2.1.v
              by_cases hc : cond D i j
              · have HC : Hid (cond D i j) := hc
                have e1 : ((D.O i : Int) == (D.O j : Int)) = true := by simp [hc.1]
                have e2 : ((D.T i : Int) != (D.T j : Int)) = true := by simp; have := hc.2.1; omega
                have hWW := hc.2.2
                clear hc
                have hpb := hH.out.2.2.2.1
                have hqb := hH.out.2.2.2.2
                have hTiI : (D.T i : Int) < 8 := by omega
                have hTjI : (D.T j : Int) < 8 := by omega
                have z1 := hH.out.1.edge.cell (i := D.T i * 8 + D.T j) (by omega)
                have z1f := hH.out.1.edge.frozen (D.T i * 8 + D.T j)
                go_upto_region 14 with fail
                go_cut [83] from 41 to 89 (fun s wx => s = .bool true ∧ wx = wc)
                case first =>
                  by_cases hw1 : D.W i = true
                  · rw [hw1] at p2
                    clear hWW hw1 z1 z1f
                    go_wp2_with fail
                    go_meet
                    exact ⟨rfl, rfl⟩
                  · have hw2 := hWW.resolve_left hw1
                    rw [show D.W i = false by simpa using hw1] at p2
                    rw [hw2] at q2
                    clear hWW hw1 hw2 z1 z1f
                    go_wp2_with fail
                    go_meet
                    exact ⟨rfl, rfl⟩
                case rest =>
                  obtain ⟨rfl, rfl⟩ := hcut
                  go_upto_region 15 with fail
                  have HM : Hid (MS w2 wc D i j) := hH.out.1
                  go_region_held3 (fun w' => w'.cell? ⟨pb, 0, none⟩ = some (.int .i32 (D.T i)) ∧ w'.cell? ⟨qb, 0, none⟩ = some (.int .i32 (D.T j))) (go_keep) (fail)
                  have HM2 : Hid (MS w2 (wc.setCell ⟨w2.heap.size, D.T i * 8 + D.T j, none⟩ (.bool true)).drew D i (j + 1)) := (HM.out.yes hij hlt2 HC.out hTj).keep ⟨rfl, rfl, rfl, Nat.le_refl _, fun _ _ => rfl⟩
                  clear z1 z1f p0 p1 p2 q0 q1 q2 hH HM e1 e2
                  go_wp2_with fail
                  go_roundg (D.N - (j + 1))
                  case measure => have := HG2.out; omega
                  case rel => exact ⟨j + 1, by omega, by omega, rfl, by go_num, HM2.out⟩
              · have HM2 : Hid (MS w2 wc D i (j + 1)) := hH.out.1.no hij hlt2 hc
                go_upto_region 14 with fail
                go_cut [83] from 41 to 89 (fun s wx => s = .bool false ∧ wx = wc)
                case first =>
                  by_cases e1 : D.O i = D.O j
                  · have e1' : ((D.O i : Int) == (D.O j : Int)) = true := by simp [e1]
                    by_cases e2 : D.T i = D.T j
                    · have e2' : ((D.T i : Int) != (D.T j : Int)) = false := by simp [e2]
                      clear hc e1 e2
                      go_wp2_with fail
                      go_meet
                      exact ⟨rfl, rfl⟩
                    · have e2' : ((D.T i : Int) != (D.T j : Int)) = true := by simp; omega
                      have hw1 : D.W i = false := by
                        cases h : D.W i with
                        | false => rfl
                        | true => exact (hc ⟨e1, e2, .inl h⟩).elim
                      have hw2 : D.W j = false := by
                        cases h : D.W j with
                        | false => rfl
                        | true => exact (hc ⟨e1, e2, .inr h⟩).elim
                      rw [hw1] at p2
                      rw [hw2] at q2
                      clear hc e1 e2 hw1 hw2
                      go_wp2_with fail
                      go_meet
                      exact ⟨rfl, rfl⟩
                  · have e1' : ((D.O i : Int) == (D.O j : Int)) = false := by simp; omega
                    clear hc e1
                    go_wp2_with fail
                    go_meet
                    exact ⟨rfl, rfl⟩
                case rest =>
                  obtain ⟨rfl, rfl⟩ := hcut
                  clear p0 p1 p2 q0 q1 q2 hH hc
                  go_wp2_with fail
                  go_roundg (D.N - (j + 1))
                  case measure => have := HG2.out; omega
                  case rel => exact ⟨j + 1, by omega, by omega, rfl, by go_num, HM2.out⟩
          · obtain rfl : j = D.N := by omega
            have HM2 : Hid (MS w2 wr D (i + 1) (i + 1 + 1)) := hM.out.next
            go_wp2_with fail
            go_roundg (D.N - (i + 1))
            case measure => have := HGK.out; omega
            case rel => exact ⟨i + 1, by omega, rfl, by go_num, HM2.out⟩
      · obtain rfl : i = D.N := by omega
        have HE : Hid (wr.rowIs w2.heap.size 53 64 (fun c => .bool (decide (Ed D (c / 8) (c % 8))))) := hM.out.edge.congr (fun c _ => by unfold edgeF; simp only [EdP.done])
        have HR3 : Hid (wr.rowIs gb 21 8 fun v => .int .i32 (g v)) := Below.row' hM.out.bel HR.out
        have HB3 : Hid (Below w0.heap.size w0 wr) := HB.out.trans (hM.out.bel.mono HB.out.size)
        have hszE := hM.out.size
        generalize w2.heap.size = eb at HE hszE ⊢
        clear hAr hM HR HB hA2
        obtain ⟨w3, hw3⟩ : ∃ w3, w3 = wr := ⟨_, rfl⟩
        subst hw3
        go_upto_region 18 with fail
        go_loopw [14] (fun x wr => ∃ v : Nat, v ≤ 8 ∧ x = .int .i64 v ∧ Hid (LW w3 wr (fun x => if x < v then -1 else 0))) (fun x _ => 8 - (intOf x).toNat)
        case atStart => exact ⟨0, by omega, rfl, LW.start w3⟩
        case round =>
          obtain ⟨v, hv, rfl, hL⟩ := hrel
          by_cases hv8 : v < 8
          · have z1 := hL.out.row.cell hv8
            have z2 := hL.out.row.frozen v
            have hvI : (v : Int) < 8 := by omega
            go_wp2_with fail
            go_roundw
            case rel => exact ⟨v + 1, by omega, by go_num, hL.out.set v _ (fun x hx => by
              by_cases e : x = v
              · subst e; simp
              · rw [if_neg e]
                by_cases e2 : x < v
                · rw [if_pos e2, if_pos (by omega)]
                · rw [if_neg e2, if_neg (by omega)])⟩
            case measure => simp [intOf]; omega
          · obtain rfl : v = 8 := by omega
            have z1 := hL.out.row.cell htg
            have z2 := hL.out.row.frozen tg
            have htI : (tg : Int) < 8 := by omega
            have HL : Hid (LW w3 (wr.setCell ⟨w3.heap.size, tg, none⟩ (.int .i32 0)) (lay g ((1 : Nat) - 1))) := hL.out.set tg 0 (fun x hx => by
              rw [show (((1 : Nat) : Int) - 1) = 0 by omega, lay_start hG x hx]
              by_cases e : x = tg
              · simp [e]
              · simp [e, hx])
            have HG : Hid (Good D tg g) := hG
            clear hL hG
            go_upto_region 23 with fail
            clear z1 z2 htI
            go_loopg [15] 8 (fun gg x wr => ∃ d : Nat, 1 ≤ d ∧ d ≤ 9 ∧ gg = 9 - d ∧ x = .int .i32 d ∧ Hid (LW w3 wr (lay g ((d : Nat) - 1))))
            case atStart => exact ⟨1, by omega, by omega, by omega, rfl, HL.out⟩
            case round =>
              clear HL
              obtain ⟨G4, hGG⟩ : ∃ G4, G4 = gk := ⟨_, rfl⟩
              subst hGG
              obtain ⟨d, hd1, hd9, hgk, rfl, hL⟩ := hrel
              have HG4 : Hid (G4 = 9 - d) := hgk
              clear hgk
              by_cases hd8 : d ≤ 8
              · go_upto_region 26 with fail
                go_loopg [16] 8 (fun gg x wr => ∃ v : Nat, v ≤ 8 ∧ gg = 8 - v ∧ x = .int .i64 v ∧ Hid (LW w3 wr (lays g d v)))
                case atStart => exact ⟨0, by omega, by omega, rfl, hL.out.congr (fun x _ => by unfold lays; rw [if_neg (by omega)])⟩
                case round =>
                  clear hL
                  obtain ⟨G5, hGG⟩ : ∃ G5, G5 = gk := ⟨_, rfl⟩
                  subst hGG
                  obtain ⟨v, hv, hgk, rfl, hL⟩ := hrel
                  have HG5 : Hid (G5 = 8 - v) := hgk
                  clear hgk
                  have hd1I : (1 : Int) ≤ (d : Int) := by omega
                  by_cases hv8 : v < 8
                  · have z1 := hL.out.row.cell hv8
                    have z2 := hL.out.row.frozen v
                    have hvI : (v : Int) < 8 := by omega
                    by_cases hm : lays g d v v = -1
                    · have hmb : (lays g d v v != -1) = false := by simp [hm]
                      have HM1 : Hid (lays g d v v = -1) := hm
                      clear hm
                      go_upto_region 30 with fail
                      clear hmb
                      go_loopg [17] 8 (fun gg x wr => ∃ w : Nat, w ≤ 8 ∧ gg = 8 - w ∧ x = .int .i64 w ∧ Hid (LW w3 wr (lays g d v) ∧ ∀ w', w' < w → ¬ (Ed D v w' ∧ lays g d v w' = d - 1)))
                      case atStart => exact ⟨0, by omega, by omega, rfl, hL.out, fun w' h => absurd h (by omega)⟩
                      case round =>
                        clear hL z1 z2
                        obtain ⟨G6, hGG⟩ : ∃ G6, G6 = gk := ⟨_, rfl⟩
                        subst hGG
                        obtain ⟨w, hw, hgk, rfl, hL⟩ := hrel
                        have HG6 : Hid (G6 = 8 - w) := hgk
                        clear hgk
                        by_cases hw8 : w < 8
                        · have zE := (Below.row' hL.out.1.bel HE.out).cell (i := v * 8 + w) (by omega)
                          rw [show (v * 8 + w) / 8 = v by omega, show (v * 8 + w) % 8 = w by omega] at zE
                          have hwI : (w : Int) < 8 := by omega
                          have zw := hL.out.1.row.cell hw8
                          have zv := hL.out.1.row.cell hv8
                          have zvf := hL.out.1.row.frozen v
                          have hwr : IntKind.i32.wrap ((d : Int) - 1) = (d : Int) - 1 := by rw [IntKind.wrap_i32]; omega
                          have HFin : Hid (Ed D v w ∧ lays g d v w = d - 1 → LW w3 (wr.setCell ⟨w3.heap.size, v, none⟩ (.int .i32 d)) (lays g d (v + 1))) := fun hh => hL.out.1.set v d (fun x hx => by
                            rw [lays_step]
                            by_cases e : x = v
                            · rw [if_pos e, if_pos e]
                              exact lays_some HG.out hv8 hw8 hd1I HM1.out hh.1 hh.2
                            · rw [if_neg e, if_neg e])
                          have HNext : Hid (¬ (Ed D v w ∧ lays g d v w = d - 1) → LW w3 wr (lays g d v) ∧ ∀ w', w' < w + 1 → ¬ (Ed D v w' ∧ lays g d v w' = d - 1)) := fun hh => ⟨hL.out.1, fun w' hw' => by
                            by_cases e : w' = w
                            · subst e; exact hh
                            · exact hL.out.2 w' (by omega)⟩
                          clear hL
                          by_cases he : Ed D v w
                          · rw [show decide (Ed D v w) = true by simp [he]] at zE
                            by_cases hq : lays g d v w = d - 1
                            · have hqb : (lays g d v w == (d : Int) - 1) = true := by simp [hq]
                              have HF2 : Hid (LW w3 (wr.setCell ⟨w3.heap.size, v, none⟩ (.int .i32 d)) (lays g d (v + 1))) := HFin.out ⟨he, hq⟩
                              clear HFin HNext he hq
                              go_wp2_with fail
                              go_roundg (8 - (v + 1))
                              case measure => have := HG5.out; omega
                              case rel => exact ⟨v + 1, by omega, rfl, by go_num, HF2.out⟩
                            · have hqb : (lays g d v w == (d : Int) - 1) = false := by simp [hq]
                              have HF2 : Hid (LW w3 wr (lays g d v) ∧ ∀ w', w' < w + 1 → ¬ (Ed D v w' ∧ lays g d v w' = d - 1)) := HNext.out (fun x => hq x.2)
                              clear HFin HNext he hq
                              go_wp2_with fail
                              go_roundg (8 - (w + 1))
                              case measure => have := HG6.out; omega
                              case rel => exact ⟨w + 1, by omega, rfl, by go_num, HF2.out⟩
                          · rw [show decide (Ed D v w) = false by simp [he]] at zE
                            have HF2 : Hid (LW w3 wr (lays g d v) ∧ ∀ w', w' < w + 1 → ¬ (Ed D v w' ∧ lays g d v w' = d - 1)) := HNext.out (fun x => he x.1)
                            clear HFin HNext he
                            go_wp2_with fail
                            go_roundg (8 - (w + 1))
                            case measure => have := HG6.out; omega
                            case rel => exact ⟨w + 1, by omega, rfl, by go_num, HF2.out⟩
                        · obtain rfl : w = 8 := by omega
                          have HN : Hid (LW w3 wr (lays g d (v + 1))) := hL.out.1.congr (fun x hx => by
                            rw [lays_step]
                            by_cases e : x = v
                            · subst e
                              rw [if_pos rfl, HM1.out]
                              exact lays_none HG.out hv8 hd1I HM1.out hL.out.2
                            · rw [if_neg e])
                          go_wp2_with fail
                          go_roundg (8 - (v + 1))
                          case measure => have := HG5.out; omega
                          case rel => exact ⟨v + 1, by omega, rfl, by go_num, HN.out⟩
                    · have hmb : (lays g d v v != -1) = true := by simp [hm]
                      have HN : Hid (LW w3 wr (lays g d (v + 1))) := hL.out.congr (fun x hx => by
                        rw [lays_step]
                        by_cases e : x = v
                        · subst e
                          rw [if_pos rfl]
                          exact lays_keep hd1I hm
                        · rw [if_neg e])
                      clear hm
                      go_wp2_with fail
                      go_roundg (8 - (v + 1))
                      case measure => have := HG5.out; omega
                      case rel => exact ⟨v + 1, by omega, rfl, by go_num, HN.out⟩
                  · obtain rfl : v = 8 := by omega
                    have HN : Hid (LW w3 wr (lay g ((d + 1 : Nat) - 1))) := hL.out.congr (fun x hx => by
                      unfold lays
                      rw [if_pos hx, show (((d + 1 : Nat) : Int) - 1) = d by omega])
                    go_wp2_with fail
                    go_roundg (9 - (d + 1))
                    case measure => have := HG4.out; omega
                    case rel => exact ⟨d + 1, by omega, by omega, rfl, by go_num, HN.out⟩
              · obtain rfl : d = 9 := by omega
                have HL9 : Hid (LW w3 wr g) := hL.out.congr (fun x hx => by
                  rw [show (((9 : Nat) : Int) - 1) = 8 by omega]
                  exact (lay_end HG.out x hx).symm)
                clear hL
                go_upto_region 37 with fail
                go_loopg [18] 8 (fun gg x wr => ∃ v : Nat, v ≤ 8 ∧ gg = 8 - v ∧ x = .int .i64 v ∧ Hid (LW w3 wr g))
                case atStart => exact ⟨0, by omega, by omega, rfl, HL9.out⟩
                case round =>
                  clear HL9
                  obtain ⟨G7, hGG⟩ : ∃ G7, G7 = gk := ⟨_, rfl⟩
                  subst hGG
                  obtain ⟨v, hv, hgk, rfl, hL⟩ := hrel
                  have HG7 : Hid (G7 = 8 - v) := hgk
                  clear hgk
                  by_cases hv8 : v < 8
                  · have z1 := hL.out.row.cell hv8
                    have z2 := (Below.row' hL.out.bel HR3.out).cell hv8
                    have hvI : (v : Int) < 8 := by omega
                    have hnn : (g v != g v) = false := by simp
                    go_upto_region 39 with fail
                    go_quiet (fail)
                    have HN : Hid (LW w3 (wr.drewN nq) g) := ⟨hL.out.bel.trans ⟨rfl, rfl, rfl, Nat.le_refl _, fun _ _ => rfl⟩, hL.out.row⟩
                    clear z1 z2 hL
                    go_wp2_with fail
                    go_roundg (8 - (v + 1))
                    case measure => have := HG7.out; omega
                    case rel => exact ⟨v + 1, by omega, rfl, by go_num, HN.out⟩
                  · obtain rfl : v = 8 := by omega
                    go_wp2_with fail
                    go_ret
                    exact ⟨rfl, HB3.out.trans (hL.out.bel.mono HB3.out.size)⟩
end Go.Proofs.Ybulkxos
