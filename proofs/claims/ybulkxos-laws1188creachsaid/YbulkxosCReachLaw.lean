/-
  THE WALK of LawS1188CReach (6).
-/
import Derived.Test.YbulkxosCSubW
import Derived.Test.YbulkxosCRoundPl
import Derived.Test.YbulkxosCDist
import Derived.Test.YbulkxosCBuild
import Derived.BigQuiet
namespace Go.Proofs.Ybulkxos
open Go.RowKit
set_option linter.unusedVariables false
set_option linter.unusedSimpArgs false

/-- the row r of the law's own -/
structure BW (w3 wr : World) (r : Nat → Bool) : Prop where
  bel : Below w3.heap.size w3 wr
  row : wr.rowIs w3.heap.size 52 8 (fun x => .bool (r x))
theorem BW.start (w3 : World) : BW w3 (w3.alloc (.cells #[.bool false, .bool false, .bool false, .bool false, .bool false, .bool false, .bool false, .bool false] 52)) (fun _ => false) :=
  ⟨(Below.refl _ _).alloc (Nat.le_refl _) _, World.rowIs_alloc w3 _ 52 _ (fun j hj => by simp at hj; match j, hj with | 0, _ => rfl | 1, _ => rfl | 2, _ => rfl | 3, _ => rfl | 4, _ => rfl | 5, _ => rfl | 6, _ => rfl | 7, _ => rfl)⟩
theorem BW.set {w3 wr : World} {r r' : Nat → Bool} (h : BW w3 wr r) (v : Nat) (hf : ∀ x, x < 8 → r' x = if x = v then true else r x) : BW w3 (wr.setCell ⟨w3.heap.size, v, none⟩ (.bool true)) r' :=
  ⟨h.bel.setCell (by exact Nat.le_refl _) _, (h.row.set v _).congr (fun x hx => by rw [hf x hx]; by_cases e : x = v <;> simp [e])⟩

/-- the successors' rows, for reading -/
structure SuccAt (w : World) (B : Nat) (sc : Nat → List Nat) (a : Nat → Option Addr) (b c : Nat → Nat) : Prop where
  hd : ∀ v, v < 8 → w.cell? ⟨B, v, none⟩ = some (.slice (a v) (sc v).length (c v))
  ad : ∀ v, v < 8 → 0 < (sc v).length → a v = some ⟨b v, 0, none⟩
  el : ∀ v p y, v < 8 → (sc v)[p]? = some y → w.cell? ⟨b v, p, none⟩ = some (.int .i32 (y : Nat))
theorem RS.succ {w0 w : World} {lw : Nat → Int} {sc rd : Nat → List Nat} {val : Nat → Value} (h : RS w0 w lw (mix sc rd) val) : SuccAt w w0.heap.size sc (fun v => sAddr (val v)) (fun v => sBlk (val v)) (fun v => sCap (val v)) := by
  refine ⟨fun v hv => ?_, fun v hv h0 => ?_, fun v p y hv hy => ?_⟩
  · obtain ⟨e0, e1⟩ := own_form (h.own v (by omega))
    rw [mix_lo hv] at e0
    have := h.sr.cell hv
    rw [e0] at this
    exact this
  · obtain ⟨e0, e1⟩ := own_form (h.own v (by omega))
    rw [mix_lo hv] at e1
    exact (e1 h0).1
  · obtain ⟨e0, e1⟩ := own_form (h.own v (by omega))
    rw [mix_lo hv] at e1
    have h0 := (List.getElem?_eq_some_iff.1 hy).1
    exact (e1 (by omega)).2 p _ (by simp [ints, hy])
theorem SuccAt.below {w w' : World} {B : Nat} {sc : Nat → List Nat} {a : Nat → Option Addr} {b c : Nat → Nat} (h : SuccAt w B sc a b c) (hb : Below w.heap.size w w') : SuccAt w' B sc a b c :=
  ⟨fun v hv => Below.cell' hb (h.hd v hv), h.ad, fun v p y hv hy => Below.cell' hb (h.el v p y hv hy)⟩

set_option maxHeartbeats 4000000 in
set_option maxRecDepth 100000 in
theorem reachlaw_any (w0 : World) (oa : Option Addr) (cap n tb : Nat) (p q : Nat → Nat) (W : Nat → Bool) (htb : tb < 256) (hops : OpsAt w0 oa n p q W) :
    Calls Yba.prog 6 #[.slice oa n cap, .int .u8 (tb : Nat)] w0 fun e w' => e = .returned (.bool true) ∧ Below w0.heap.size w0 w' := by
  go_enter Yba.func6, Yba.ntmps6
  by_cases hbig : 1024 < n
  · go_wp2
    go_ret
    exact ⟨rfl, Below.refl _ _⟩
  · obtain ⟨D, hD⟩ : ∃ D : Dat, D = ⟨fun x => p x % 8, fun x => q x % 4, W, n⟩ := ⟨_, rfl⟩
    have hN : n = D.N := by rw [hD]
    have hWW : W = D.W := by rw [hD]
    have hT : ∀ x, x < D.N → D.T x = p x % 8 := fun x _ => by rw [hD]
    have hO : ∀ x, x < D.N → D.O x = q x % 4 := fun x _ => by rw [hD]
    clear hD
    subst hN hWW
    go_wp2_with fail
    refine (build_any w0 oa cap D p q hops (by omega) hT hO).mono ?_
    rintro e w1 ⟨M, rfl, hA, hb1⟩
    clear hops hT hO
    go_wp2_with fail
    rw [show ((tb : Int) % 8) = ((tb % 8 : Nat) : Int) by omega]
    have htg : tb % 8 < 8 := by omega
    generalize tb % 8 = tg at htg ⊢
    refine (dist_any w1 w0.heap.size D M tg hA htg).mono ?_
    rintro e w2 ⟨g, rfl, hG, hrow, hb2⟩
    have hA2 := hA.below hb2
    have HB : Hid (Below w0.heap.size w0 w2) := hb1.trans (hb2.mono hb1.size)
    have HR : Hid (w2.rowIs (w1.heap.size + 1) 21 8 fun v => .int .i32 (g v)) := hrow
    clear hA hb1 hb2 hrow
    generalize w1.heap.size + 1 = gb at HR ⊢
    go_wp2_with fail
    refine (sub_any w2 w0.heap.size D M hA2).mono ?_
    rintro e w3 ⟨rfl, sc, val, lw, rd, hSub, hRS⟩
    have HE : Hid (∀ v w, Ed D v w → v < 8 ∧ w < 8) := fun v w ⟨i, j, h1, h2, _, _, _, h3, h4⟩ => ⟨by rw [← h3]; exact hA2.tlt i (by omega), by rw [← h4]; exact hA2.tlt j h2⟩
    have HW : Hid (∀ v w, v < 8 → w ∈ sc v → w < 8) := fun v w _ hm => (HE.out v w (hSub.snd v w hm)).2
    have hS := hRS.succ
    have HB3 : Hid (Below w0.heap.size w0 w3) := HB.out.trans (hRS.bel.mono HB.out.size)
    have HR3 : Hid (w3.rowIs gb 21 8 fun v => .int .i32 (g v)) := Below.row' hRS.bel HR.out
    have HSub : Hid (Sub D sc) := hSub
    have HG : Hid (Good D tg g) := hG
    have HS : Hid (SuccAt w3 w2.heap.size sc (fun v => sAddr (val v)) (fun v => sBlk (val v)) (fun v => sCap (val v))) := hS
    clear hRS HB HR hSub hG hA2 hS
    generalize (fun v => sAddr (val v)) = sa at HS
    generalize (fun v => sBlk (val v)) = sb at HS
    generalize (fun v => sCap (val v)) = sq at HS
    generalize w2.heap.size = eb at HS ⊢
    have htI : (tg : Int) < 8 := by omega
    go_upto_region 8 with fail
    have hL := BW.start w3
    generalize w3.alloc (.cells #[.bool false, .bool false, .bool false, .bool false, .bool false, .bool false, .bool false, .bool false] 52) = w4 at hL ⊢
    have z1 := hL.row.cell htg
    have z2 := hL.row.frozen tg
    have HL : Hid (BW w3 (w4.setCell ⟨w3.heap.size, tg, none⟩ (.bool true)) (fun x => decide (x = tg))) := hL.set tg (fun x _ => by by_cases e : x = tg <;> simp [e])
    clear hL
    go_upto_region 9 with fail
    generalize w4.setCell ⟨w3.heap.size, tg, none⟩ (.bool true) = w5 at HL ⊢
    clear z1 z2 htI
    go_wp2_with fail
    go_loopg [10] 8 (fun gg x wr => ∃ (k : Nat) (r : Nat → Bool), k ≤ 8 ∧ gg = 8 - k ∧ x = .int .i64 k ∧ Hid (BW w3 wr r ∧ Rd sc g tg k r))
    case atStart => exact ⟨0, _, by omega, by omega, rfl, HL.out, Rd.start sc g tg htg HG.out.base.tg0⟩
    case round =>
      clear HL
      obtain ⟨G1, hGG⟩ : ∃ G1, G1 = gk := ⟨_, rfl⟩
      subst hGG
      obtain ⟨k, r0, hk, hgk, rfl, hH⟩ := hrel
      have HG1 : Hid (G1 = 8 - k) := hgk
      clear hgk
      by_cases hk8 : k < 8
      · have HR0 : Hid (Rd sc g tg k r0) := hH.out.2
        have hkI : (k : Int) < 8 := by omega
        go_upto_region 12 with fail
        go_wp2_with fail
        go_loopg [11] 8 (fun gg x wr => ∃ (v : Nat) (r : Nat → Bool), v ≤ 8 ∧ gg = 8 - v ∧ x = .int .i64 v ∧ Hid (BW w3 wr r ∧ RdIn sc g tg r0 r v 0))
        case atStart => exact ⟨0, r0, by omega, by omega, rfl, hH.out.1, HR0.out.inn⟩
        case round =>
          clear hH
          obtain ⟨G2, hGG⟩ : ∃ G2, G2 = gk := ⟨_, rfl⟩
          subst hGG
          obtain ⟨v, r, hv, hgk, rfl, hH⟩ := hrel
          have HG2 : Hid (G2 = 8 - v) := hgk
          clear hgk
          by_cases hv8 : v < 8
          · have hvI : (v : Int) < 8 := by omega
            have s1 := (HS.out.below hH.out.1.bel).hd v hv8
            have HAD : Hid (0 < (sc v).length → sa v = some ⟨sb v, 0, none⟩) := HS.out.ad v hv8
            have HEL : Hid (∀ wr : World, Below w3.heap.size w3 wr → ∀ p y, (sc v)[p]? = some y → wr.cell? ⟨sb v, p, none⟩ = some (.int .i32 (y : Nat))) := fun wr hb p y hy => (HS.out.below hb).el v p y hv8 hy
            have hlen : (sc v).length ≤ 2000000 := HSub.out.slen v
            obtain ⟨m, hm⟩ : ∃ m, m = (sc v).length := ⟨_, rfl⟩
            rw [← hm] at s1 hlen HAD
            have HM : Hid (m = (sc v).length) := hm
            clear hm
            generalize sa v = a0 at s1 HAD
            generalize sb v = b0 at HAD HEL
            generalize sq v = q0 at s1
            go_upto_region 15 with fail
            go_wp2_with fail
            clear s1
            go_loopg [49] m (fun gg x wr => ∃ (p : Nat) (r : Nat → Bool), p ≤ m ∧ gg = m - p ∧ x = .int .i64 p ∧ Hid (BW w3 wr r ∧ RdIn sc g tg r0 r v p))
            case atStart => exact ⟨0, r, by omega, by omega, rfl, hH.out⟩
            case round =>
              clear hH
              obtain ⟨G3, hGG⟩ : ∃ G3, G3 = gk := ⟨_, rfl⟩
              subst hGG
              obtain ⟨p, r, hp, hgk, rfl, hH⟩ := hrel
              have HG3 : Hid (G3 = m - p) := hgk
              clear hgk
              by_cases hpm : p < m
              · have hpI : (p : Int) < (m : Int) := by omega
                have ea := HAD.out (by omega)
                subst ea
                obtain ⟨y, hy⟩ : ∃ y, (sc v)[p]? = some y := ⟨(sc v)[p]'(by have := HM.out; omega), by simp⟩
                have HY : Hid ((sc v)[p]? = some y) := hy
                have c1 := HEL.out wr hH.out.1.bel p y hy
                have hy8 := HW.out v y hv8 (List.mem_of_getElem? hy)
                have hyI : (y : Int) < 8 := by omega
                have z1 := hH.out.1.row.cell hy8
                have z2 := hH.out.1.row.cell hv8
                have z2f := hH.out.1.row.frozen v
                clear hy
                by_cases hry : r y = true
                · have HF : Hid (BW w3 (wr.setCell ⟨w3.heap.size, v, none⟩ (.bool true)) (fun x => if x = v then true else r x) ∧ RdIn sc g tg r0 (fun x => if x = v then true else r x) v (p + 1)) := ⟨hH.out.1.set v (fun _ _ => rfl), hH.out.2.yes HG.out HSub.out hv8 HY.out hy8 hry⟩
                  rw [hry] at z1
                  clear hH hry
                  go_wp2_with fail
                  go_roundg (m - (p + 1))
                  case measure => have := HG3.out; omega
                  case rel => exact ⟨p + 1, _, by omega, rfl, by go_num, HF.out⟩
                · have hry' : r y = false := by simpa using hry
                  have HF : Hid (BW w3 wr r ∧ RdIn sc g tg r0 r v (p + 1)) := ⟨hH.out.1, hH.out.2.no HY.out hy8 hry'⟩
                  rw [hry'] at z1
                  clear hH hry hry'
                  go_wp2_with fail
                  go_roundg (m - (p + 1))
                  case measure => have := HG3.out; omega
                  case rel => exact ⟨p + 1, _, by omega, rfl, by go_num, HF.out⟩
              · have HF : Hid (BW w3 wr r ∧ RdIn sc g tg r0 r (v + 1) 0) := ⟨hH.out.1, by
                  have e : p = (sc v).length := by have := HM.out; omega
                  have h1 := hH.out.2
                  rw [e] at h1
                  exact h1.row⟩
                have hmp : ¬ ((p : Int) < (m : Int)) := by omega
                clear hH
                go_wp2_with fail
                go_roundg (8 - (v + 1))
                case measure => have := HG2.out; omega
                case rel => exact ⟨v + 1, _, by omega, rfl, by go_num, HF.out⟩
          · obtain rfl : v = 8 := by omega
            have HF : Hid (BW w3 wr r ∧ Rd sc g tg (k + 1) r) := ⟨hH.out.1, hH.out.2.out HR0.out htg HW.out⟩
            clear hH
            go_wp2_with fail
            go_roundg (8 - (k + 1))
            case measure => have := HG1.out; omega
            case rel => exact ⟨k + 1, _, by omega, rfl, by go_num, HF.out⟩
      · obtain rfl : k = 8 := by omega
        have HD : Hid (∀ v, v < 8 → (r0 v = true ↔ 0 ≤ g v)) := fun v hv => hH.out.2.done HG.out HSub.out HE.out v hv
        have HB4 : Hid (BW w3 wr r0) := hH.out.1
        clear hH
        go_upto_region 23 with fail
        go_wp2_with fail
        go_loopg [14] 8 (fun gg x wr => ∃ v : Nat, v ≤ 8 ∧ gg = 8 - v ∧ x = .int .i64 v ∧ Hid (BW w3 wr r0))
        case atStart => exact ⟨0, by omega, by omega, rfl, HB4.out⟩
        case round =>
          clear HB4
          obtain ⟨G4, hGG⟩ : ∃ G4, G4 = gk := ⟨_, rfl⟩
          subst hGG
          obtain ⟨v, hv, hgk, rfl, hH⟩ := hrel
          have HG4 : Hid (G4 = 8 - v) := hgk
          clear hgk
          by_cases hv8 : v < 8
          · have hvI : (v : Int) < 8 := by omega
            have z1 := hH.out.row.cell hv8
            have z2 := (Below.row' hH.out.bel HR3.out).cell hv8
            by_cases hrv : r0 v = true
            · have hgv : 0 ≤ g v := (HD.out v hv8).1 hrv
              rw [hrv] at z1
              clear hrv
              go_upto_region 26 with fail
              go_quiet (fail)
              have HN : Hid (BW w3 (wr.drewN nq) r0) := ⟨hH.out.bel.trans ⟨rfl, rfl, rfl, Nat.le_refl _, fun _ _ => rfl⟩, hH.out.row⟩
              clear z1 z2 hH
              go_wp2_with fail
              go_roundg (8 - (v + 1))
              case measure => have := HG4.out; omega
              case rel => exact ⟨v + 1, by omega, rfl, by go_num, HN.out⟩
            · have hgv : ¬ 0 ≤ g v := fun h => hrv ((HD.out v hv8).2 h)
              have hrv' : r0 v = false := by simpa using hrv
              rw [hrv'] at z1
              clear hrv hrv'
              go_upto_region 26 with fail
              go_quiet (fail)
              have HN : Hid (BW w3 (wr.drewN nq) r0) := ⟨hH.out.bel.trans ⟨rfl, rfl, rfl, Nat.le_refl _, fun _ _ => rfl⟩, hH.out.row⟩
              clear z1 z2 hH
              go_wp2_with fail
              go_roundg (8 - (v + 1))
              case measure => have := HG4.out; omega
              case rel => exact ⟨v + 1, by omega, rfl, by go_num, HN.out⟩
          · obtain rfl : v = 8 := by omega
            go_wp2_with fail
            go_ret
            exact ⟨rfl, HB3.out.trans (hH.out.bel.mono HB3.out.size)⟩
end Go.Proofs.Ybulkxos
