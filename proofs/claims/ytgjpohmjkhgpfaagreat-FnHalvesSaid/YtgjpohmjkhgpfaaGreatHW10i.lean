/- image/draw: drawGlyphOver: each pixel of the rectangle is composed with one color through the mask, all others stay. The rectangle lies in the image and in the mask; no color is above alpha. -/
import Derived.Test.YtgjpohmjkhgpfaaGreatD06
import Derived.Test.YtgjpohmjkhgpfaaGreatHW10a
import Derived.Test.YtgjpohmjkhgpfaaGreatD09
set_option linter.unusedSimpArgs false
set_option linter.unusedVariables false
namespace Go.Proofs.YtgjpohmjkhgpfaaGreat
open Go.RowKit

set_option maxRecDepth 100000 in
set_option maxHeartbeats 8000000 in
theorem drawGlyphOver_c {bd pd dh dw bs bm pm mh mw rx ry xe ye mx my : Nat} {dx0 dy0 mx0 my0 x0 y0 x1 y1 mpx mpy : Int} {D M : Nat → Nat → Nat → Int} {T1 T3 : TypeId} {s c : Nat → Int} (w : World)
    (Hd : Pic w bd T1 pd 4 dh dw dx0 dy0 D) (hc0 : w.cell? ⟨bs, 0, none⟩ = some (.iface 103 (c64 c))) (Hm : Pic w bm T3 pm 1 mh mw mx0 my0 M) (hne4 : bm ≠ pd) (hne5 : pm ≠ pd)
    (HR : Rct x0 y0 x1 y1 dx0 dy0 rx ry xe ye dh dw) (HM : Plc mpx mpy mx0 my0 mx my rx ry xe ye mh mw) (hs : By s) (hcs : ∀ i, cl 6 s i = c i) (hpm : Pm 6 s) :
    Calls Tryz.prog 58 #[.pointer (some ⟨bd, 0, none⟩), vR x0 y0 x1 y1, .pointer (some ⟨bs, 0, none⟩), .pointer (some ⟨bm, 0, none⟩), vP mpx mpy] w
      (Drawn w pd 4 dh dw rx ry xe ye (fun r cc => pxM 0 6 2 0 (D r cc) s (M (my + (r - ry)) (mx + (cc - rx)))) D) := by
  obtain ⟨nd, cd, st, d0, d1, d2, d3, -, -, b1, hpd, hnd, hst, hcd, hmx, hne, l7, l8, v1, v2, v3, v4, hB⟩ := Hd.cells
  obtain ⟨nm, cm, sm', m0, m1, m2, m3, -, -, b3, hpmm, hnm, hsm, hcm, hmx3, -, l11, l12, v9, v10, v11, v12, hBm⟩ := Hm.cells
  obtain ⟨e1, e2, e3, e4, l1, l2, l3, l4⟩ := HR
  obtain ⟨e7, e8, l13, l14⟩ := HM
  have a1 : -4000 ≤ x0 ∧ x0 ≤ 4000 ∧ -4000 ≤ y0 ∧ y0 ≤ 4000 := by omega
  have a2 : -4000 ≤ x1 ∧ x1 ≤ 4000 ∧ -4000 ≤ y1 ∧ y1 ≤ 4000 := by omega
  have a10 : -4000 ≤ mpx ∧ mpx ≤ 4000 ∧ -4000 ≤ mpy ∧ mpy ≤ 4000 := by omega
  have q1 : st ≤ 512 := by omega
  have q3 : sm' ≤ 512 := by omega
  have hcr : ∀ i, 0 ≤ c i ∧ c i ≤ 65535 := fun i => by rw [← hcs]; exact cl_range hs _
  have s0 := hcr 0
  have s1 := hcr 1
  have s2 := hcr 2
  have s3 := hcr 3
  have n0 : c 0 ≤ c 3 := by have := hpm 0 (by omega); rw [hcs, hcs] at this; exact this
  have n1 : c 1 ≤ c 3 := by have := hpm 1 (by omega); rw [hcs, hcs] at this; exact this
  have n2 : c 2 ≤ c 3 := by have := hpm 2 (by omega); rw [hcs, hcs] at this; exact this
  have Hnd := hid hnd
  have Hst := hid hst
  have Hnm := hid hnm
  have Hsm := hid hsm
  have HB := hid hB
  have HBm := hid hBm
  have HHd := hid Hd
  have HHm := hid Hm
  have Hpl := hid hpd.lt
  have HPD := hid hpd
  have Hcs := hid hcs
  have Hcr := hid hcr
  have hbb : nd ≤ 65536 := by
    rw [hnd]; exact Nat.le_trans (Nat.mul_le_mul l8 q1) (by omega)
  have hbm : nm ≤ 65536 := by
    rw [hnm]; exact Nat.le_trans (Nat.mul_le_mul l12 q3) (by omega)
  have bsl : bs < w.heap.size := World.block_lt_of_cell? w _ hc0
  clear hnd hst hnm hsm hB hBm Hd Hm hcs hpm hs hcr hpd hpmm
  obtain ⟨F, hF⟩ : ∃ F : Nat → Nat → Nat → Int, F = fun r cc => pxM 0 6 2 0 (D r cc) s (M (my + (r - ry)) (mx + (cc - rx))) := ⟨_, rfl⟩
  rw [← hF]
  have HF := hid hF
  clear hF
  obtain ⟨q0, hq0⟩ : ∃ q0 : Nat, ry * st + rx * 4 = q0 := ⟨_, rfl⟩
  have hqb : q0 ≤ 70000 := by
    rw [← hq0]; have := Nat.mul_le_mul (show ry ≤ 128 by omega) q1; omega
  obtain ⟨g0, hg0⟩ : ∃ g0 : Nat, my * sm' + mx * 1 = g0 := ⟨_, rfl⟩
  have hgb0 : g0 ≤ 70000 := by
    rw [← hg0]; have := Nat.mul_le_mul (show my ≤ 128 by omega) q3; omega
  have Hq0 := hid hq0
  have Hg0 := hid hg0
  clear hq0 hg0
  go_enter Tryz.func58, Tryz.ntmps58
  go_wp2_with fail
  refine (off_RGBA bd st ry rx q0 _ _ _ _ _ (by go_simp) (by go_simp) (by go_simp) e1 e2 (by omega) (by omega) (by omega) Hq0.out.symm).mono ?_
  rintro e w1 ⟨rfl, hg1⟩
  have HX1 := hid (gb_trans (a := w) (gb_alloc (gb_alloc (gb_refl w none) (.cells #[.int .i64 x0, .int .i64 y0, .int .i64 x1, .int .i64 y1] 78)) (.cells #[.int .i64 mpx, .int .i64 mpy] 76)) hg1)
  have R0 : w1.cell? ⟨w.heap.size, 0, none⟩ = some (.int .i64 x0) := (gb_cell0 hg1 (p := ⟨w.heap.size, 0, none⟩) (by simp <;> omega)).trans (by go_simp)
  have R1 : w1.cell? ⟨w.heap.size, 1, none⟩ = some (.int .i64 y0) := (gb_cell0 hg1 (p := ⟨w.heap.size, 1, none⟩) (by simp <;> omega)).trans (by go_simp)
  have R2 : w1.cell? ⟨w.heap.size, 2, none⟩ = some (.int .i64 x1) := (gb_cell0 hg1 (p := ⟨w.heap.size, 2, none⟩) (by simp <;> omega)).trans (by go_simp)
  have R3 : w1.cell? ⟨w.heap.size, 3, none⟩ = some (.int .i64 y1) := (gb_cell0 hg1 (p := ⟨w.heap.size, 3, none⟩) (by simp <;> omega)).trans (by go_simp)
  have R4 : w1.cell? ⟨w.heap.size + 1, 0, none⟩ = some (.int .i64 mpx) := (gb_cell0 hg1 (p := ⟨w.heap.size + 1, 0, none⟩) (by simp <;> omega)).trans (by go_simp)
  have R5 : w1.cell? ⟨w.heap.size + 1, 1, none⟩ = some (.int .i64 mpy) := (gb_cell0 hg1 (p := ⟨w.heap.size + 1, 1, none⟩) (by simp <;> omega)).trans (by go_simp)
  have zR : w.heap.size < w1.heap.size := World.block_lt_of_cell? w1 _ R0
  have zR1 : w.heap.size + 1 < w1.heap.size := World.block_lt_of_cell? w1 _ R4
  clear hg1
  go_wp2_with fail
  refine (dx_c x0 y0 x1 y1 _ (by unfold sm; omega) (by unfold sm; omega)).mono ?_
  rintro e w2 ⟨rfl, rfl⟩
  have HX2 := hid (gb_alloc HX1.out (.cells #[.int .i64 x0, .int .i64 y0, .int .i64 x1, .int .i64 y1] 78))
  go_wp2_with fail
  refine (off_Alpha bm sm' my mx g0 _ _ mx0 my0 _ ((gb_cell0 HX2.out (p := ⟨bm, 1, none⟩) b3).trans m1) ((gb_cell0 HX2.out (p := ⟨bm, 2, none⟩) b3).trans m2) ((gb_cell0 HX2.out (p := ⟨bm, 3, none⟩) b3).trans m3) e7 e8 (by omega) (by omega) (by omega) Hg0.out.symm).mono ?_
  rintro e w3 ⟨rfl, hg3⟩
  have HX3 := hid (gb_trans HX2.out hg3)
  have HW3 := hid (gb_trans (gb_alloc (gb_refl w1 none) (.cells #[.int .i64 x0, .int .i64 y0, .int .i64 x1, .int .i64 y1] 78)) hg3)
  go_wp2_with fail
  refine (uni_RGBA_c c bs _ Hcr.out ((gb_cell0 HX3.out (p := ⟨bs, 0, none⟩) bsl).trans hc0)).mono ?_
  rintro e w4 ⟨rfl, hg4⟩
  have HX4 := hid (gb_trans HX3.out hg4)
  have HW4 := hid (gb_trans HW3.out hg4)
  have R1' := (gb_cell0 HW4.out (p := ⟨w.heap.size, 1, none⟩) zR).trans R1
  have R3' := (gb_cell0 HW4.out (p := ⟨w.heap.size, 3, none⟩) zR).trans R3
  have R5' := (gb_cell0 HW4.out (p := ⟨w.heap.size + 1, 1, none⟩) zR1).trans R5
  have HCD := hid (And.intro (And.intro d0 d1) (And.intro m0 m1))
  have E1 : (q0 : Int) + (x1 - x0) * 4 = ((q0 + (xe - rx) * 4 : Nat) : Int) := by omega
  clear hg3 hg4 R0 R1 R2 R3 R4 R5 d0 d1 d2 d3 m0 m1 m2 m3 hc0 zR zR1
  go_wp2_with fail
  go_quiet (fail)
  go_wp2_with fail
  clear R1' R5'
  go_loopw [17, 18, 10, 11, 12] (fun y v i0 i1 mi wr => ∃ j ro mo : Nat, ry + j ≤ ye ∧ ro = (ry + j) * st ∧ mo = (my + j) * sm' ∧ y = .int .i64 (y0 + j) ∧ v = .int .i64 (mpy + j) ∧ i0 = .int .i64 ((ro + rx * 4 : Nat) : Int) ∧ i1 = .int .i64 ((ro + xe * 4 : Nat) : Int) ∧ mi = .int .i64 ((mo + mx : Nat) : Int) ∧ w.grownBy wr (some pd) ∧
       PixI wr pd dh dw 4 (pt (fw rx xe ry j 0) F D) ∧ wr.cell? ⟨w.heap.size, 3, none⟩ = some (.int .i64 y1)) (fun y _ _ _ _ _ => (y1 - intOf y).toNat)
  case atStart =>
    have hq0 := Hq0.out
    have hg0 := Hg0.out
    refine ⟨0, ry * st, my * sm', by omega, by simp, by simp, by simp, by simp, ?_, ?_, ?_, ?_, ?_, ?_⟩
    · rw [hq0]
    · congr 1; push_cast; have : ((ry * st + rx * 4 : Nat) : Int) = q0 := by rw [hq0]
      push_cast at this; omega
    · rw [← hg0]; simp
    · exact gb_drewN (gb_weak HX4.out _) _
    · refine pt_start ?_ (fun r c _ _ => by unfold fw; omega)
      exact PixI.kept HPD.out (gb_block0 (gb_drewN HX4.out _) Hpl.out)
    · go_simp
  case round =>
    obtain ⟨j, ro, mo, hj, hro, hmo, rfl, rfl, rfl, rfl, rfl, hgb, hg', R3⟩ := hrel
    have D0 : wr.cell? ⟨bd, 0, none⟩ = some (.slice (some ⟨pd, 0, none⟩) nd cd) := (gb_cell hgb b1 hne).trans HCD.out.1.1
    have D1 : wr.cell? ⟨bd, 1, none⟩ = some (.int .i64 st) := (gb_cell hgb b1 hne).trans HCD.out.1.2
    have M0 : wr.cell? ⟨bm, 0, none⟩ = some (.slice (some ⟨pm, 0, none⟩) nm cm) := (gb_cell hgb b3 hne4).trans HCD.out.2.1
    have M1 : wr.cell? ⟨bm, 1, none⟩ = some (.int .i64 sm') := (gb_cell hgb b3 hne4).trans HCD.out.2.2
    clear R3' E1
    by_cases hlt : ry + j < ye
    · have hn1 : ¬ (y0 + (j : Int) = y1) := by omega
      have hrb : ro + xe * 4 ≤ nd := by
        have hh := pix_bound (h := dh) (wd := dw) (k := 4) (r := ry + j) (c := xe - 1) (ch := 3) (by omega) (by omega) (by omega)
        rw [Hst.out, ← hro] at hh; rw [Hnd.out]; omega
      have hmb : mo + mx + (xe - rx) ≤ nm := by
        have hh := pix_bound (h := mh) (wd := mw) (k := 1) (r := my + j) (c := mx + (xe - rx) - 1) (ch := 0) (by omega) (by omega) (by omega)
        rw [Hsm.out, ← hmo] at hh; rw [Hnm.out]; omega
      have Hro := hid hro
      have Hmo := hid hmo
      clear hro hmo
      go_wp2
      obtain ⟨wo, ho⟩ : ∃ wo : World, wo = wr := ⟨_, rfl⟩
      go_loopw [19, 20] (fun u v wr => ∃ i : Nat, rx + i ≤ xe ∧ u = .int .i64 ((ro + (rx + i) * 4 : Nat) : Int) ∧ v = .int .i64 ((mo + mx + i : Nat) : Int) ∧ w.grownBy wr (some pd) ∧
           PixI wr pd dh dw 4 (pt (fw rx xe ry j i) F D) ∧ wr.cell? ⟨w.heap.size, 3, none⟩ = some (.int .i64 y1)) (fun u _ _ => (ro + xe * 4) - (intOf u).toNat)
      case atStart => exact ⟨0, by omega, by first | rfl | (simp; done) | go_num, by first | rfl | (simp; done) | go_num, hgb, hg', R3⟩
      case round =>
        clear ho wo D0 D1 M0 M1 hg' hgb R3
        obtain ⟨i, hi, rfl, rfl, hgb, hg, R3⟩ := hrel
        have D0 : wr.cell? ⟨bd, 0, none⟩ = some (.slice (some ⟨pd, 0, none⟩) nd cd) := (gb_cell hgb b1 hne).trans HCD.out.1.1
        have D1 : wr.cell? ⟨bd, 1, none⟩ = some (.int .i64 st) := (gb_cell hgb b1 hne).trans HCD.out.1.2
        have M0 : wr.cell? ⟨bm, 0, none⟩ = some (.slice (some ⟨pm, 0, none⟩) nm cm) := (gb_cell hgb b3 hne4).trans HCD.out.2.1
        have M1 : wr.cell? ⟨bm, 1, none⟩ = some (.int .i64 sm') := (gb_cell hgb b3 hne4).trans HCD.out.2.2
        by_cases hlti : rx + i < xe
        · obtain ⟨dp, hdp⟩ : ∃ dp : Nat → Int, D (ry + j) (rx + i) = dp := ⟨_, rfl⟩
          obtain ⟨mp, hmp⟩ : ∃ mp : Nat → Int, M (my + j) (mx + i) = mp := ⟨_, rfl⟩
          have Mm : Pic wr bm T3 pm 1 mh mw mx0 my0 M := HHm.out.kept hgb hne4 hne5
          have hFv : F (ry + j) (rx + i) = pxM 0 6 2 0 dp s mp := by
            rw [HF.out]; dsimp only
            rw [hdp, show my + (ry + j - ry) = my + j by omega, show mx + (rx + i - rx) = mx + i by omega, hmp]
          have bdp : By dp := by rw [← hdp]; exact HB.out _ _
          have bmp : By mp := by rw [← hmp]; exact HBm.out _ _
          have G0 := bmp 0
          have g20 : mx + i < mw := by omega
          have g21 : my + j < mh := by omega
          have K0 : wr.cell? ⟨pm, mo + mx + i, none⟩ = some (.int .u8 (mp 0)) := by
            rw [← hmp]; exact Mm.px.cell g21 g20 (by omega) (by rw [Hsm.out, ← Hmo.out]; omega)
          have hmi : mo + mx + i < nm := by omega
          have hml : pm < wr.heap.size := Mm.px.lt
          clear Mm
          by_cases hz : mp 0 = 0
          · rw [hz] at K0
            have HFz : Hid (∀ ch, ch < 4 → F (ry + j) (rx + i) ch = D (ry + j) (rx + i) ch) := hid (fun ch hch => by
              rw [hFv, hdp, pxM_zero (.inl rfl) bdp (by rw [cl2, hz]; rfl) (show ch < sz 0 from hch), if_pos rfl])
            have Hg := hid hg
            clear hz hg hdp hmp bdp bmp hFv
            go_wp2
            refine ⟨⟨i + 1, by omega, by go_num, by go_num, hgb, ?_, R3⟩, by simp [intOf]; omega⟩
            refine Hg.out.congr fun r cc ch _ _ hch => ?_
            by_cases he : r = ry + j ∧ cc = rx + i
            · obtain ⟨rfl, rfl⟩ := he
              rw [pt_neg (by unfold fw; omega), pt_pos (by unfold fw; omega), HFz.out ch hch]
            · exact pt_iff (by unfold fw; omega) ch
          · obtain ⟨gm, hgm⟩ : ∃ gm : Int, mp 0 * 257 = gm := ⟨_, rfl⟩
            have o9 := or257 G0
            rw [hgm] at o9
            have rm : 0 ≤ gm ∧ gm ≤ 65535 := by rw [← hgm]; omega
            have k0 := hg.cell (r := ry + j) (c := rx + i) (ch := 0) (i := ro + (rx + i) * 4) (by omega) (by omega) (by omega) (by rw [Hst.out, Hro.out]; rfl)
            have k1 := hg.cell (r := ry + j) (c := rx + i) (ch := 1) (i := ro + (rx + i) * 4 + 1) (by omega) (by omega) (by omega) (by rw [Hst.out, Hro.out])
            have k2 := hg.cell (r := ry + j) (c := rx + i) (ch := 2) (i := ro + (rx + i) * 4 + 2) (by omega) (by omega) (by omega) (by rw [Hst.out, Hro.out])
            have k3 := hg.cell (r := ry + j) (c := rx + i) (ch := 3) (i := ro + (rx + i) * 4 + 3) (by omega) (by omega) (by omega) (by rw [Hst.out, Hro.out])
            rw [pt_neg (by unfold fw; omega), hdp] at k0 k1 k2 k3
            have F0 := fun k => hg.free k
            have B0 := bdp 0; have B1 := bdp 1; have B2 := bdp 2; have B3 := bdp 3
            have hFw : ∀ ch, F (ry + j) (rx + i) ch = (dp ch * ((65535 - c 3 * gm / 65535) * 257) + c ch * gm) / 65535 / 256 := fun ch => by
              rw [hFv, mask_px, Hcs.out, Hcs.out, hgm]
            obtain ⟨P0, hP0⟩ : ∃ P, c 0 * gm = P := ⟨_, rfl⟩
            obtain ⟨P1, hP1⟩ : ∃ P, c 1 * gm = P := ⟨_, rfl⟩
            obtain ⟨P2, hP2⟩ : ∃ P, c 2 * gm = P := ⟨_, rfl⟩
            obtain ⟨P3, hP3⟩ : ∃ P, c 3 * gm = P := ⟨_, rfl⟩
            have bP3 := fu_mul s3 rm
            rw [hP3] at bP3
            have bP0 : 0 ≤ P0 ∧ P0 ≤ P3 := by rw [← hP0, ← hP3]; exact ⟨Int.mul_nonneg s0.1 rm.1, prod_le rm.1 n0⟩
            have bP1 : 0 ≤ P1 ∧ P1 ≤ P3 := by rw [← hP1, ← hP3]; exact ⟨Int.mul_nonneg s1.1 rm.1, prod_le rm.1 n1⟩
            have bP2 : 0 ≤ P2 ∧ P2 ≤ P3 := by rw [← hP2, ← hP3]; exact ⟨Int.mul_nonneg s2.1 rm.1, prod_le rm.1 n2⟩
            obtain ⟨Q0, hQ0⟩ : ∃ Q, dp 0 * ((65535 - P3 / 65535) * 257) = Q := ⟨_, rfl⟩
            have bQ0 := rest8_le B0.1 B0.2 (show 0 ≤ 65535 - P3 / 65535 by omega)
            rw [hQ0] at bQ0
            obtain ⟨Q1, hQ1⟩ : ∃ Q, dp 1 * ((65535 - P3 / 65535) * 257) = Q := ⟨_, rfl⟩
            have bQ1 := rest8_le B1.1 B1.2 (show 0 ≤ 65535 - P3 / 65535 by omega)
            rw [hQ1] at bQ1
            obtain ⟨Q2, hQ2⟩ : ∃ Q, dp 2 * ((65535 - P3 / 65535) * 257) = Q := ⟨_, rfl⟩
            have bQ2 := rest8_le B2.1 B2.2 (show 0 ≤ 65535 - P3 / 65535 by omega)
            rw [hQ2] at bQ2
            obtain ⟨Q3, hQ3⟩ : ∃ Q, dp 3 * ((65535 - P3 / 65535) * 257) = Q := ⟨_, rfl⟩
            have bQ3 := rest8_le B3.1 B3.2 (show 0 ≤ 65535 - P3 / 65535 by omega)
            rw [hQ3] at bQ3
            have t0 : 0 ≤ Q0 + P0 ∧ Q0 + P0 ≤ 4294901759 := by omega
            have t1 : 0 ≤ Q1 + P1 ∧ Q1 + P1 ≤ 4294901759 := by omega
            have t2 : 0 ≤ Q2 + P2 ∧ Q2 + P2 ≤ 4294901759 := by omega
            have t3 : 0 ≤ Q3 + P3 ∧ Q3 + P3 ≤ 4294901759 := by omega
            have V0 := hid ((hFw 0).trans (by rw [hP3, hP0, hQ0] : _ = (Q0 + P0) / 65535 / 256))
            have V1 := hid ((hFw 1).trans (by rw [hP3, hP1, hQ1] : _ = (Q1 + P1) / 65535 / 256))
            have V2 := hid ((hFw 2).trans (by rw [hP3, hP2, hQ2] : _ = (Q2 + P2) / 65535 / 256))
            have V3 := hid ((hFw 3).trans (by rw [hP3, hQ3] : _ = (Q3 + P3) / 65535 / 256))
            have hpl := hg.lt
            have Hg := hid hg
            have Hgb := hid hgb
            have hzR : pd ≠ w.heap.size := by have := Hpl.out; omega
            clear hg hdp hmp bdp bmp hFv hFw hgb
            go_wp2
            refine ⟨⟨i + 1, by omega, by go_num, by go_num, ?_, ?_, ?_⟩, by simp [intOf]; omega⟩
            · exact gb_setCell (gb_setCell (gb_setCell (gb_setCell Hgb.out (.inl rfl) _) (.inl rfl) _) (.inl rfl) _) (.inl rfl) _
            · exact pix4 (dn := fw rx xe ry j i) Hg.out (r := ry + j) (c := rx + i) (by omega) (by omega) (by rw [Hst.out, Hro.out]) (fun r' c' => by unfold fw; omega) V0.out.symm V1.out.symm V2.out.symm V3.out.symm
            · go_simp
        · go_wp2
          refine ⟨⟨j + 1, ro + st, mo + sm', by omega, next_row Hro.out, next_row Hmo.out, by go_num, by go_num, by go_num, by go_num, by go_num, hgb, ?_, R3⟩, by simp [intOf]; omega⟩
          exact pt_turn hg (fun r c _ _ => by unfold fw; omega)
    · have hn1 : y0 + (j : Int) = y1 := by omega
      go_wp2
      go_end0
      exact ⟨rfl, hgb, pt_turn hg' (fun r c _ _ => by unfold fw inR; omega)⟩
end Go.Proofs.YtgjpohmjkhgpfaaGreat
