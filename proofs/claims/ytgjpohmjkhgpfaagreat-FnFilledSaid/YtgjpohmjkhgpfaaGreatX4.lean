/- image/draw: DrawMask, onto RGBA from RGBA by Src: each pixel of the rectangle is composed, all others stay. -/
import Derived.Test.YtgjpohmjkhgpfaaGreatX0
import Derived.Test.YtgjpohmjkhgpfaaGreatTA
import Derived.Test.YtgjpohmjkhgpfaaGreatW8c
import Derived.Test.YtgjpohmjkhgpfaaGreatW4
import Derived.Deep.RegionHeld3
set_option linter.unusedSimpArgs false
set_option linter.unusedVariables false
namespace Go.Proofs.YtgjpohmjkhgpfaaGreat
open Go.RowKit

theorem sc_kept {w w' : World} {bd bs pd ps br bp nd cd ns cs st ss : Nat} {b0 b1 b2 b3 p0 p1 : Int} (h : w.cell? ⟨bd, 0, none⟩ = some (.slice (some ⟨pd, 0, none⟩) nd cd) ∧ w.cell? ⟨bd, 1, none⟩ = some (.int .i64 (st : Int)) ∧ w.cell? ⟨bs, 0, none⟩ = some (.slice (some ⟨ps, 0, none⟩) ns cs) ∧ w.cell? ⟨bs, 1, none⟩ = some (.int .i64 (ss : Int)) ∧ w.cell? ⟨br, 0, none⟩ = some (.int .i64 b0) ∧ w.cell? ⟨br, 1, none⟩ = some (.int .i64 b1) ∧ w.cell? ⟨br, 2, none⟩ = some (.int .i64 b2) ∧ w.cell? ⟨br, 3, none⟩ = some (.int .i64 b3) ∧ w.cell? ⟨bp, 0, none⟩ = some (.int .i64 p0) ∧ w.cell? ⟨bp, 1, none⟩ = some (.int .i64 p1))
    (hg : w.grownBy w' (some pd)) (h1 : bd ≠ pd) (h2 : bs ≠ pd) (h3 : br ≠ pd) (h4 : bp ≠ pd) : w'.cell? ⟨bd, 0, none⟩ = some (.slice (some ⟨pd, 0, none⟩) nd cd) ∧ w'.cell? ⟨bd, 1, none⟩ = some (.int .i64 (st : Int)) ∧ w'.cell? ⟨bs, 0, none⟩ = some (.slice (some ⟨ps, 0, none⟩) ns cs) ∧ w'.cell? ⟨bs, 1, none⟩ = some (.int .i64 (ss : Int)) ∧ w'.cell? ⟨br, 0, none⟩ = some (.int .i64 b0) ∧ w'.cell? ⟨br, 1, none⟩ = some (.int .i64 b1) ∧ w'.cell? ⟨br, 2, none⟩ = some (.int .i64 b2) ∧ w'.cell? ⟨br, 3, none⟩ = some (.int .i64 b3) ∧ w'.cell? ⟨bp, 0, none⟩ = some (.int .i64 p0) ∧ w'.cell? ⟨bp, 1, none⟩ = some (.int .i64 p1) := by
  obtain ⟨a0, a1, a2, a3, a4, a5, a6, a7, a8, a9⟩ := h
  have k := fun {b i : Nat} {v : Value} (hb : b ≠ pd) (hc : w.cell? ⟨b, i, none⟩ = some v) => (gb_cell hg (p := ⟨b, i, none⟩) (World.block_lt_of_cell? w _ hc) hb).trans hc
  exact ⟨k h1 a0, k h1 a1, k h2 a2, k h2 a3, k h3 a4, k h3 a5, k h3 a6, k h3 a7, k h4 a8, k h4 a9⟩

set_option maxRecDepth 100000 in
set_option maxHeartbeats 8000000 in
theorem dm_0_0_1 {bd pd dh dw bs ps sh sw rx ry xe ye sx sy : Nat} {dx0 dy0 sx0 sy0 x0 y0 x1 y1 px py qx qy b0 b1 b2 b3 p0 p1 q0 q1 : Int} {D S : Nat → Nat → Nat → Int} (w : World)
    (hD : Pic w bd 87 pd 4 dh dw dx0 dy0 D) (hS : Pic w bs 87 ps 4 sh sw sx0 sy0 S) (hne2 : bs ≠ pd) (HH : ∀ w' : World, w.grownBy w' none → Alias w' pd ps dh dw sh sw 4 D S) (hdir : ps = pd → dx0 = sx0 ∧ dy0 = sy0)
    (hC : Cl0 x0 y0 x1 y1 px py qx qy dx0 dy0 (dx0 + dw) (dy0 + dh) sx0 sy0 (sx0 + sw) (sy0 + sh) b0 b1 b2 b3 p0 p1 q0 q1)
    (hR : Rct b0 b1 b2 b3 dx0 dy0 rx ry xe ye dh dw) (hP : Plc p0 p1 sx0 sy0 sx sy rx ry xe ye sh sw) :
    Calls Tryz.prog 42 #[.iface 85 (.pointer (some ⟨bd, 0, none⟩)), vR x0 y0 x1 y1, .iface 85 (.pointer (some ⟨bs, 0, none⟩)), vP px py, .nilIface, vP qx qy, .int .i64 1] w
      (Drawn w pd 4 dh dw rx ry xe ye (fun r c => S (sy + (r - ry)) (sx + (c - rx))) D) := by
  have HC := hid hC
  have Hem := hid (rct_ne hR)
  have HR := hid hR
  have HP := hid hP
  have HD := hid hD
  have HS := hid hS
  clear hC hR hP hD hS
  go_enter Tryz.func42, Tryz.ntmps42
  go_wp2_with fail
  refine (clip0_k HC.out (w0 := w) (gb_alloc (gb_alloc (gb_alloc (gb_refl _ _) _) _) _) (Nat.le_refl _) (by omega) (by omega) (by omega) (by omega) (by omega) (Src.k0 HD.out).bd (Src.k0 HS.out).bd (cp_start _ _ _ _ _ _ _ _ _)).mono ?_
  rintro e w1 ⟨rfl, hg, ⟨c0, c1, c2, c3, k0, k1, l0, l1, fr, fp, fq⟩⟩
  have z1 : w.heap.size < w1.heap.size := World.block_lt_of_cell? w1 _ c0
  have z2 : w.heap.size + 1 < w1.heap.size := World.block_lt_of_cell? w1 _ k0
  have z3 : w.heap.size + 2 < w1.heap.size := World.block_lt_of_cell? w1 _ l0
  clear fr fp fq
  have Hg := hid hg
  clear hg
  go_wp2_with fail
  refine (empty_c b0 b1 b2 b3 _).mono ?_
  rintro e w2 ⟨rfl, rfl⟩
  rw [Hem.out]
  go_wp2_with fail
  obtain ⟨nd, cd, st, d0, d1, d2, d3, -, -, lb, hpd, hnd, hst, hcd, hmx, hne, l7, l8, v1, v2, v3, v4, hB⟩ := HD.out.cells
  obtain ⟨ns, cs, ss, s0, s1, s2, s3, -, -, lbs, hps, hns, hss, hcs, hmx2, hnes, l9, l10, v5, v6, v7, v8, hBs⟩ := HS.out.cells
  obtain ⟨e1, e2, e3, e4, l1, l2, l3, l4⟩ := HR.out
  obtain ⟨e5, e6, l5, l6⟩ := HP.out
  have HG := hid (gb_alloc Hg.out (.cells #[.int .i64 b0, .int .i64 b1, .int .i64 b2, .int .i64 b3] 78))
  obtain ⟨q0, hq0⟩ : ∃ q0 : Nat, q0 = ry * st + rx * 4 := ⟨_, rfl⟩
  obtain ⟨q1, hq1⟩ : ∃ q1 : Nat, q1 = sy * ss + sx * 4 := ⟨_, rfl⟩
  have f1 : q0 < nd := by
    have hh := pix_bound (h := dh) (wd := dw) (k := 4) (r := ry) (c := rx) (ch := 0) (by omega) (by omega) (by omega)
    rw [hst] at hh; rw [hnd, hq0]; omega
  have f2 : q1 < ns := by
    have hh := pix_bound (h := sh) (wd := sw) (k := 4) (r := sy) (c := sx) (ch := 0) (by omega) (by omega) (by omega)
    rw [hss] at hh; rw [hns, hq1]; omega
  have g1 : st ≤ 1024 := by omega
  have g2 : ss ≤ 1024 := by omega
  have m0 : -4000 ≤ b0 ∧ b0 ≤ 4000 ∧ -4000 ≤ b2 ∧ b2 ≤ 4000 := by omega
  have hlp : pd < w.heap.size := hpd.lt
  have hda := HH
  have Hpd := hid hpd
  have Hal := hid hda
  have Hdir := hid hdir
  have Hk := hid (And.intro hnd (And.intro hst (And.intro hns (And.intro hss (And.intro hq0 hq1)))))
  have HB := hid (And.intro hB hBs)
  clear hnd hst hns hss hq0 hq1 hB hBs hpd hps hda hdir
  refine Calls.mono (off_RGBA bd st ry rx q0 _ _ _ _ _ ((gb_cell0 HG.out lb).trans d1) ((gb_cell0 HG.out lb).trans d2) ((gb_cell0 HG.out lb).trans d3) e1 e2 (by omega) (by omega) g1 Hk.out.2.2.2.2.1) ?_
  rintro e w3 ⟨rfl, hg3⟩
  have HW := hid (gb_trans (gb_alloc (gb_refl w1 none) (.cells #[.int .i64 b0, .int .i64 b1, .int .i64 b2, .int .i64 b3] 78)) hg3)
  have HG3 := hid (gb_trans HG.out hg3)
  clear hg3
  have k0' := (gb_cell0 HW.out z2).trans k0
  have k1' := (gb_cell0 HW.out z2).trans k1
  go_wp2_with fail
  refine Calls.mono (off_RGBA bs ss sy sx q1 _ _ _ _ _ ((gb_cell0 HG3.out lbs).trans s1) ((gb_cell0 HG3.out lbs).trans s2) ((gb_cell0 HG3.out lbs).trans s3) e5 e6 (by omega) (by omega) g2 Hk.out.2.2.2.2.2) ?_
  rintro e w4 ⟨rfl, hg4⟩
  have HW4 := hid (gb_trans HW.out hg4)
  have HG4 := hid (gb_trans HG3.out hg4)
  clear hg4 k0' k1'
  have k0' := (gb_cell0 HW4.out z2).trans k0
  have k1' := (gb_cell0 HW4.out z2).trans k1
  have c0' := (gb_cell0 HW4.out z1).trans c0
  have c1' := (gb_cell0 HW4.out z1).trans c1
  have c2' := (gb_cell0 HW4.out z1).trans c2
  have c3' := (gb_cell0 HW4.out z1).trans c3
  have D0 := (gb_cell0 HG4.out lb).trans d0
  have D1 := (gb_cell0 HG4.out lb).trans d1
  have S0 := (gb_cell0 HG4.out lbs).trans s0
  have S1 := (gb_cell0 HG4.out lbs).trans s1
  have x1 : bd < w4.heap.size := World.block_lt_of_cell? w4 _ D0
  have x2 : bs < w4.heap.size := World.block_lt_of_cell? w4 _ S0
  have x3 : w.heap.size < w4.heap.size := World.block_lt_of_cell? w4 _ c0'
  have x4 : w.heap.size + 1 < w4.heap.size := World.block_lt_of_cell? w4 _ k0'
  have j1 : w.heap.size ≠ pd := by omega
  have j2 : w.heap.size + 1 ≠ pd := by omega
  have y1 : (0 : Int) ≤ (q0 : Int) := by omega
  have y2 : (q0 : Int) ≤ (nd : Int) := by omega
  have y3 : (q0 : Int) ≤ (cd : Int) := by omega
  have y4 : ¬ (cd = q0) := by omega
  have y5 : (0 : Int) ≤ (q1 : Int) := by omega
  have y6 : (q1 : Int) ≤ (ns : Int) := by omega
  have y7 : (q1 : Int) ≤ (cs : Int) := by omega
  have y8 : ¬ (cs = q1) := by omega
  have y9 : IntKind.i64.wrap (4 * (b2 - b0)) = 4 * (b2 - b0) := IntWalk.i64_in _ (by omega)
  have HL := hid (And.intro (And.intro l7 l8) (And.intro l9 l10))
  have HV := hid (And.intro (And.intro v1 v2) (And.intro (And.intro v3 v4) (And.intro (And.intro v5 v6) (And.intro v7 v8))))
  have E := hid (And.intro e1 (And.intro e2 (And.intro e3 (And.intro e4 (And.intro e5 e6)))))
  clear d0 d1 d2 d3 s0 s1 s2 s3 c0 c1 c2 c3 k0 k1 l0 l1 z1 z2 z3 e1 e2 e3 e4 e5 e6 v1 v2 v3 v4 v5 v6 v7 v8 l2 l3 l4 l5 l6 l7 l8 l9 l10
  go_wp2_with fail
  go_region_held3 (fun W => W.cell? ⟨bd, 0, none⟩ = some (.slice (some ⟨pd, 0, none⟩) nd cd) ∧ W.cell? ⟨bd, 1, none⟩ = some (.int .i64 (st : Int)) ∧ W.cell? ⟨bs, 0, none⟩ = some (.slice (some ⟨ps, 0, none⟩) ns cs) ∧ W.cell? ⟨bs, 1, none⟩ = some (.int .i64 (ss : Int)) ∧ W.cell? ⟨w.heap.size, 0, none⟩ = some (.int .i64 b0) ∧ W.cell? ⟨w.heap.size, 1, none⟩ = some (.int .i64 b1) ∧ W.cell? ⟨w.heap.size, 2, none⟩ = some (.int .i64 b2) ∧ W.cell? ⟨w.heap.size, 3, none⟩ = some (.int .i64 b3) ∧ W.cell? ⟨w.heap.size + 1, 0, none⟩ = some (.int .i64 p0) ∧ W.cell? ⟨w.heap.size + 1, 1, none⟩ = some (.int .i64 p1)) (first | go_simp | assumption)
    (first
    | (go_at_call 64; refine (dx_c b0 b1 b2 b3 _ (by unfold sm; omega) (by unfold sm; omega)).mono ?_; rintro e w5 ⟨rfl, rfl⟩)
    | (go_at_call 63
       refine (drawCopySrc_c (D := D) (S := S) (d0 := q0) (s0 := q1) (dh := dh) (dw := dw) (sh := sh) (sw := sw) (rx := rx) (ry := ry) (xe := xe) (ye := ye) (sx := sx) (sy := sy) (dx0 := dx0) (dy0 := dy0) (sx0 := sx0) (sy0 := sy0) _
         (Hpd.out.kept (gb_block0 (by (repeat (first | exact HG4.out | refine gb_drew ?_ | refine gb_alloc ?_ _))) hlp)) (Hal.out _ (by (repeat (first | exact HG4.out | refine gb_drew ?_ | refine gb_alloc ?_ _)))) Hdir.out HR.out HP.out HL.out.1.1 HL.out.1.2 HL.out.2.1 HL.out.2.2 HV.out.1 HV.out.2.1 HV.out.2.2.1 HV.out.2.2.2
         Hk.out.1 Hk.out.2.1 hcd Hk.out.2.2.1 Hk.out.2.2.2.1 hcs Hk.out.2.2.2.2.1 Hk.out.2.2.2.2.2 rfl).mono ?_
       rintro e w5 h5
       have h6 := drawn_of (w := w) (by (repeat (first | exact HG4.out | refine gb_drew ?_ | refine gb_alloc ?_ _))) h5
       have HS5 := sc_kept (by assumption) h5.2.1 hne hne2 j1 j2
       obtain ⟨rfl, h7⟩ := h6
       have H7 := hid h7
       clear h5 h7))
  all_goals (
    go_wp2_with fail
    exact bodyPost_ret (v := .tuple #[]) (by simp [results, Tryz.results42]) rfl ⟨rfl, H7.out⟩)
end Go.Proofs.YtgjpohmjkhgpfaaGreat
