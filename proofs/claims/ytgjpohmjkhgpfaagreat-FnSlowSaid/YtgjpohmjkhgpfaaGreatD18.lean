/- Parts of the proof: what the functions of the package and of the reference do (W7d, X2, W7a). No condition but those that each theorem names. -/
import Derived.Test.YtgjpohmjkhgpfaaGreatD02
import Derived.Test.YtgjpohmjkhgpfaaGreatD03
import Derived.Test.YtgjpohmjkhgpfaaGreatD04
import Derived.Test.YtgjpohmjkhgpfaaGreatD17
import Derived.Deep.RegionHeld3
set_option linter.unusedSimpArgs false
set_option linter.unusedVariables false
namespace Go.Proofs.YtgjpohmjkhgpfaaGreat
open Go.RowKit

theorem nover_px (d s : Nat → Int) (ch : Nat) : px0 0 1 0 d s ch = (d ch * ((65535 - s 3 * 257) * 257) / 65535 + cl 1 s ch) / 256 := by
  unfold px0 mix0; rw [en0, if_pos rfl, cl0, rest8_eq]; rfl

set_option maxRecDepth 100000 in
set_option maxHeartbeats 8000000 in
theorem drawNRGBAOver_c {bd pd dh dw bs ps sh sw rx ry xe ye sx sy : Nat} {dx0 dy0 sx0 sy0 x0 y0 x1 y1 spx spy : Int} {D S : Nat → Nat → Nat → Int} {T1 T2 : TypeId} (w : World)
    (Hd : Pic w bd T1 pd 4 dh dw dx0 dy0 D) (Hs : Pic w bs T2 ps 4 sh sw sx0 sy0 S) (hne2 : bs ≠ pd) (hne3 : ps ≠ pd)
    (HR : Rct x0 y0 x1 y1 dx0 dy0 rx ry xe ye dh dw) (HP : Plc spx spy sx0 sy0 sx sy rx ry xe ye sh sw) :
    Calls Tryz.prog 54 #[.pointer (some ⟨bd, 0, none⟩), vR x0 y0 x1 y1, .pointer (some ⟨bs, 0, none⟩), vP spx spy] w
      (Drawn w pd 4 dh dw rx ry xe ye (fun r c => px0 0 1 0 (D r c) (S (sy + (r - ry)) (sx + (c - rx)))) D) := by
  obtain ⟨nd, cd, st, d0, d1, d2, d3, -, -, b1, hpd, hnd, hst, hcd, hmx, hne, l7, l8, v1, v2, v3, v4, hB⟩ := Hd.cells
  obtain ⟨ns, cs, ss, s0, s1, s2, s3, -, -, b2, hps, hns, hss, hcs, hmx2, -, l9, l10, v5, v6, v7, v8, hBs⟩ := Hs.cells
  obtain ⟨e1, e2, e3, e4, l1, l2, l3, l4⟩ := HR
  obtain ⟨e5, e6, l5, l6⟩ := HP
  have a1 : -4000 ≤ x0 ∧ x0 ≤ 4000 ∧ -4000 ≤ y0 ∧ y0 ≤ 4000 := by omega
  have a2 : -4000 ≤ x1 ∧ x1 ≤ 4000 ∧ -4000 ≤ y1 ∧ y1 ≤ 4000 := by omega
  have a3 : -4000 ≤ spx ∧ spx ≤ 4000 ∧ -4000 ≤ spy ∧ spy ≤ 4000 := by omega
  have q1 : st ≤ 512 := by omega
  have q2 : ss ≤ 1024 := by omega
  have Hnd := hid hnd
  have Hns := hid hns
  have Hst := hid hst
  have Hss := hid hss
  have HB := hid hB
  have HBs := hid hBs
  have HHd := hid Hd
  have HHs := hid Hs
  clear hnd hns hst hss hB hBs Hd Hs
  obtain ⟨F, hF⟩ : ∃ F : Nat → Nat → Nat → Int, F = fun r c => px0 0 1 0 (D r c) (S (sy + (r - ry)) (sx + (c - rx))) := ⟨_, rfl⟩
  rw [← hF]
  have HF := hid hF
  clear hF
  go_enter Tryz.func54, Tryz.ntmps54
  go_wp2
  go_quiet (fail)
  go_wp2
  go_quiet (fail)
  go_wp2
  go_quiet (fail)
  go_wp2
  go_quiet (fail)
  go_wp2
  go_quiet (fail)
  go_wp2
  go_quiet (fail)
  go_wp2
  go_loopw [12, 13] (fun u v wr => ∃ j : Nat, ry + j ≤ ye ∧ u = .int .i64 ((ry + j : Nat) : Int) ∧ v = .int .i64 ((sy + j : Nat) : Int) ∧ w.grownBy wr (some pd) ∧
       PixI wr pd dh dw 4 (pt (fw rx xe ry j 0) F D)) (fun u _ _ => ye - (intOf u).toNat)
  case atStart =>
    refine ⟨0, by omega, rfl, rfl, by (repeat (first | exact gb_refl _ _ | refine gb_drewN ?_ _ | refine gb_alloc ?_ _)), ?_⟩
    exact pt_start (by (repeat (first | exact hpd | refine PixI.drewN ?_ _ | refine PixI.alloc ?_ _))) (fun r c _ _ => by unfold fw; omega)
  case round =>
    obtain ⟨j, hj, rfl, rfl, hgb, hg'⟩ := hrel
    have D0 : wr.cell? ⟨bd, 0, none⟩ = some (.slice (some ⟨pd, 0, none⟩) nd cd) := (gb_cell hgb b1 hne).trans d0
    have D1 : wr.cell? ⟨bd, 1, none⟩ = some (.int .i64 st) := (gb_cell hgb b1 hne).trans d1
    have S0 : wr.cell? ⟨bs, 0, none⟩ = some (.slice (some ⟨ps, 0, none⟩) ns cs) := (gb_cell hgb b2 hne2).trans s0
    have S1 : wr.cell? ⟨bs, 1, none⟩ = some (.int .i64 ss) := (gb_cell hgb b2 hne2).trans s1
    clear d0 d1 s0 s1 hpd
    by_cases hlt : ry + j < ye
    · obtain ⟨ro, hro⟩ : ∃ ro : Nat, (ry + j) * st = ro := ⟨_, rfl⟩
      obtain ⟨so, hso⟩ : ∃ so : Nat, (sy + j) * ss = so := ⟨_, rfl⟩
      have f1 : ((ry : Int) + j) * st = ro := by rw [← hro]; push_cast; rfl
      have f2 : ((sy : Int) + j) * ss = so := by rw [← hso]; push_cast; rfl
      have f3 : ro + xe * 4 ≤ nd := by
        have hh := pix_bound (h := dh) (wd := dw) (k := 4) (r := ry + j) (c := xe - 1) (ch := 3) (by omega) (by omega) (by omega)
        rw [Hst.out, hro] at hh; rw [Hnd.out]; omega
      have f4 : so + (sx + (xe - rx)) * 4 ≤ ns := by
        have hh := pix_bound (h := sh) (wd := sw) (k := 4) (r := sy + j) (c := sx + (xe - rx) - 1) (ch := 4 - 1) (by omega) (by omega) (by omega)
        rw [Hss.out, hso] at hh; rw [Hns.out]; omega
      have Hro := hid hro
      have Hso := hid hso
      clear hro hso
      go_wp2
      go_quiet (fail)
      go_wp2
      go_quiet (fail)
      go_wp2
      obtain ⟨wo, ho⟩ : ∃ wo : World, wo = wr := ⟨_, rfl⟩
      clear f1 f2
      go_loopw [16, 17] (fun u v wr => ∃ i : Nat, rx + i ≤ xe ∧ u = .int .i64 (((rx + i) * 4 : Nat) : Int) ∧ v = .int .i64 (((sx + i) * 4 : Nat) : Int) ∧ w.grownBy wr (some pd) ∧
           PixI wr pd dh dw 4 (pt (fw rx xe ry j i) F D)) (fun u _ _ => xe * 4 - (intOf u).toNat)
      case atStart => exact ⟨0, by omega, by first | (simp; done) | go_num, by first | (simp; done) | go_num, by (repeat (first | exact hgb | refine gb_drewN ?_ _ | refine gb_alloc ?_ _)), hg'⟩
      case round =>
        clear ho wo D0 D1 S0 S1 hg' hgb
        obtain ⟨i, hi, rfl, rfl, hgb, hg⟩ := hrel
        have hpsr : PixI wr ps sh sw 4 S := hps.kept (gb_block hgb hps.lt hne3)
        by_cases hlti : rx + i < xe
        · obtain ⟨dp, hdp⟩ : ∃ dp : Nat → Int, D (ry + j) (rx + i) = dp := ⟨_, rfl⟩
          obtain ⟨sp, hsp⟩ : ∃ sp : Nat → Int, S (sy + j) (sx + i) = sp := ⟨_, rfl⟩
          have hFv : F (ry + j) (rx + i) = px0 0 1 0 dp sp := by
            rw [HF.out]; dsimp only; rw [hdp, show sy + (ry + j - ry) = sy + j by omega, show sx + (rx + i - rx) = sx + i by omega, hsp]
          have bdp : By dp := by rw [← hdp]; exact HB.out _ _
          have bsp : By sp := by rw [← hsp]; exact HBs.out _ _
          have C0 : wr.cell? ⟨ps, so + (sx + i) * 4, none⟩ = some (.int .u8 (sp 0)) := by
            rw [← hsp]; exact hpsr.cell (by omega) (by omega) (by omega) (by rw [Hss.out, Hso.out]; try rfl)
          have C1 : wr.cell? ⟨ps, so + (sx + i) * 4 + 1, none⟩ = some (.int .u8 (sp 1)) := by
            rw [← hsp]; exact hpsr.cell (by omega) (by omega) (by omega) (by rw [Hss.out, Hso.out]; try rfl)
          have C2 : wr.cell? ⟨ps, so + (sx + i) * 4 + 2, none⟩ = some (.int .u8 (sp 2)) := by
            rw [← hsp]; exact hpsr.cell (by omega) (by omega) (by omega) (by rw [Hss.out, Hso.out]; try rfl)
          have C3 : wr.cell? ⟨ps, so + (sx + i) * 4 + 3, none⟩ = some (.int .u8 (sp 3)) := by
            rw [← hsp]; exact hpsr.cell (by omega) (by omega) (by omega) (by rw [Hss.out, Hso.out]; try rfl)
          have k0 := hg.cell (r := ry + j) (c := rx + i) (ch := 0) (i := ro + (rx + i) * 4) (by omega) (by omega) (by omega) (by rw [Hst.out, Hro.out]; rfl)
          have k1 := hg.cell (r := ry + j) (c := rx + i) (ch := 1) (i := ro + (rx + i) * 4 + 1) (by omega) (by omega) (by omega) (by rw [Hst.out, Hro.out])
          have k2 := hg.cell (r := ry + j) (c := rx + i) (ch := 2) (i := ro + (rx + i) * 4 + 2) (by omega) (by omega) (by omega) (by rw [Hst.out, Hro.out])
          have k3 := hg.cell (r := ry + j) (c := rx + i) (ch := 3) (i := ro + (rx + i) * 4 + 3) (by omega) (by omega) (by omega) (by rw [Hst.out, Hro.out])
          rw [pt_neg (by unfold fw; omega), hdp] at k0 k1 k2 k3
          have F0 := fun k => hg.free k
          have B0 := bdp 0; have B1 := bdp 1; have B2 := bdp 2; have B3 := bdp 3
          have E0 := bsp 0; have E1 := bsp 1; have E2 := bsp 2; have E3 := bsp 3
          have P0 := prod3 E0 E3; have P1 := prod3 E1 E3; have P2 := prod3 E2 E3
          rw [← nmul] at P0 P1 P2
          have hpm := Pm_of (k := 1) bsp (.inl rfl)
          have m0 := hpm 0 (by omega); have m1 := hpm 1 (by omega); have m2 := hpm 2 (by omega)
          rw [cl1, cl1, if_neg (by omega), if_pos rfl, ← nmul] at m0 m1 m2
          have Q0 := rest8_le B0.1 B0.2 (show 0 ≤ 65535 - sp 3 * 257 by omega)
          have Q1 := rest8_le B1.1 B1.2 (show 0 ≤ 65535 - sp 3 * 257 by omega)
          have Q2 := rest8_le B2.1 B2.2 (show 0 ≤ 65535 - sp 3 * 257 by omega)
          have Q3 := rest8_le B3.1 B3.2 (show 0 ≤ 65535 - sp 3 * 257 by omega)
          have Hpm := hid hpm
          clear hpm
          have HFv := hid hFv
          have Hg := hid hg
          have Hdp := hid (And.intro hdp bdp)
          have Hsp := hid (And.intro hsp bsp)
          have Hps := hid hpsr
          clear hg hdp hsp bdp bsp hFv hpsr
          have hne4 : pd ≠ ps := fun e => hne3 e.symm
          go_wp2
          refine ⟨⟨i + 1, by omega, by go_num, by go_num, ?_, ?_⟩, by simp [intOf]; omega⟩
          · exact gb_setCell (gb_setCell (gb_setCell (gb_setCell hgb (.inl rfl) _) (.inl rfl) _) (.inl rfl) _) (.inl rfl) _
          · refine pix4 (dn := fw rx xe ry j i) Hg.out (r := ry + j) (c := rx + i) (by omega) (by omega) (by rw [Hst.out, Hro.out]) (fun r' c' => by unfold fw; omega) ?_ ?_ ?_ ?_
            all_goals (rw [HFv.out])
            all_goals (rw [nover_px, cl1])
            all_goals (first | (rw [if_neg (by decide)]; simp only [nmul]) | rw [if_pos rfl])
        · go_wp2
          refine ⟨⟨j + 1, by omega, by go_num, by go_num, hgb, ?_⟩, by simp [intOf]; omega⟩
          exact pt_turn hg (fun r c _ _ => by unfold fw; omega)
    · go_wp2
      go_end0
      exact ⟨rfl, hgb, pt_turn hg' (fun r c _ _ => by unfold fw inR; omega)⟩
end Go.Proofs.YtgjpohmjkhgpfaaGreat

namespace Go.Proofs.YtgjpohmjkhgpfaaGreat
open Go.RowKit

set_option maxRecDepth 100000 in
set_option maxHeartbeats 8000000 in
theorem dm_0_1_0 {bd pd dh dw bs ps sh sw rx ry xe ye sx sy : Nat} {dx0 dy0 sx0 sy0 x0 y0 x1 y1 px py qx qy b0 b1 b2 b3 p0 p1 q0 q1 : Int} {D S : Nat → Nat → Nat → Int} (w : World)
    (hD : Pic w bd 87 pd 4 dh dw dx0 dy0 D) (hS : Pic w bs 89 ps 4 sh sw sx0 sy0 S) (hne2 : bs ≠ pd) (hne3 : ps ≠ pd)
    (hC : Cl0 x0 y0 x1 y1 px py qx qy dx0 dy0 (dx0 + dw) (dy0 + dh) sx0 sy0 (sx0 + sw) (sy0 + sh) b0 b1 b2 b3 p0 p1 q0 q1)
    (hR : Rct b0 b1 b2 b3 dx0 dy0 rx ry xe ye dh dw) (hP : Plc p0 p1 sx0 sy0 sx sy rx ry xe ye sh sw) :
    Calls Tryz.prog 42 #[.iface 85 (.pointer (some ⟨bd, 0, none⟩)), vR x0 y0 x1 y1, .iface 88 (.pointer (some ⟨bs, 0, none⟩)), vP px py, .nilIface, vP qx qy, .int .i64 0] w
      (Drawn w pd 4 dh dw rx ry xe ye (fun r c => px0 0 1 0 (D r c) (S (sy + (r - ry)) (sx + (c - rx)))) D) := by
  have HC := hid hC
  have Hem := hid (rct_ne hR)
  have HR := hid hR
  have HP := hid hP
  have HD := hid hD
  have HS := hid hS
  clear hC hR hP hD hS
  go_enter Tryz.func42, Tryz.ntmps42
  go_wp2_with fail
  refine (clip0_k HC.out (w0 := w) (gb_alloc (gb_alloc (gb_alloc (gb_refl _ _) _) _) _) (Nat.le_refl _) (by omega) (by omega) (by omega) (by omega) (by omega) (Src.k0 HD.out).bd (Src.k1 HS.out).bd (cp_start _ _ _ _ _ _ _ _ _)).mono ?_
  rintro e w1 ⟨rfl, hg, ⟨c0, c1, c2, c3, k0, k1, l0, l1, fr, fp, fq⟩⟩
  have z1 : w.heap.size < w1.heap.size := World.block_lt_of_cell? w1 _ c0
  have z2 : w.heap.size + 1 < w1.heap.size := World.block_lt_of_cell? w1 _ k0
  have z3 : w.heap.size + 2 < w1.heap.size := World.block_lt_of_cell? w1 _ l0
  clear fr fp fq
  have Hg := hid hg
  clear hg
  go_wp2_with fail
  refine (empty_c b0 b1 b2 b3 _).mono ?_
  rintro e w2 ⟨rfl, rfl⟩
  rw [Hem.out]
  go_wp2_with fail
  have HG := hid (gb_alloc Hg.out (.cells #[.int .i64 b0, .int .i64 b1, .int .i64 b2, .int .i64 b3] 78))
  refine Calls.mono (drawNRGBAOver_c _ (HD.out.kept0 HG.out) (HS.out.kept0 HG.out) hne2 hne3 HR.out HP.out) ?_
  rintro e w3 h3
  have h4 := drawn_of HG.out h3
  obtain ⟨rfl, h5⟩ := h4
  have H5 := hid h5
  clear h3 h5
  go_wp2
  exact bodyPost_ret (v := .tuple #[]) (by simp [results, Tryz.results42]) rfl ⟨rfl, H5.out⟩

set_option maxRecDepth 100000 in
set_option maxHeartbeats 8000000 in
theorem dm_0_1_1 {bd pd dh dw bs ps sh sw rx ry xe ye sx sy : Nat} {dx0 dy0 sx0 sy0 x0 y0 x1 y1 px py qx qy b0 b1 b2 b3 p0 p1 q0 q1 : Int} {D S : Nat → Nat → Nat → Int} (w : World)
    (hD : Pic w bd 87 pd 4 dh dw dx0 dy0 D) (hS : Pic w bs 89 ps 4 sh sw sx0 sy0 S) (hne2 : bs ≠ pd) (hne3 : ps ≠ pd)
    (hC : Cl0 x0 y0 x1 y1 px py qx qy dx0 dy0 (dx0 + dw) (dy0 + dh) sx0 sy0 (sx0 + sw) (sy0 + sh) b0 b1 b2 b3 p0 p1 q0 q1)
    (hR : Rct b0 b1 b2 b3 dx0 dy0 rx ry xe ye dh dw) (hP : Plc p0 p1 sx0 sy0 sx sy rx ry xe ye sh sw) :
    Calls Tryz.prog 42 #[.iface 85 (.pointer (some ⟨bd, 0, none⟩)), vR x0 y0 x1 y1, .iface 88 (.pointer (some ⟨bs, 0, none⟩)), vP px py, .nilIface, vP qx qy, .int .i64 1] w
      (Drawn w pd 4 dh dw rx ry xe ye (fun r c => px0 0 1 1 (D r c) (S (sy + (r - ry)) (sx + (c - rx)))) D) := by
  have HC := hid hC
  have Hem := hid (rct_ne hR)
  have HR := hid hR
  have HP := hid hP
  have HD := hid hD
  have HS := hid hS
  clear hC hR hP hD hS
  go_enter Tryz.func42, Tryz.ntmps42
  go_wp2_with fail
  refine (clip0_k HC.out (w0 := w) (gb_alloc (gb_alloc (gb_alloc (gb_refl _ _) _) _) _) (Nat.le_refl _) (by omega) (by omega) (by omega) (by omega) (by omega) (Src.k0 HD.out).bd (Src.k1 HS.out).bd (cp_start _ _ _ _ _ _ _ _ _)).mono ?_
  rintro e w1 ⟨rfl, hg, ⟨c0, c1, c2, c3, k0, k1, l0, l1, fr, fp, fq⟩⟩
  have z1 : w.heap.size < w1.heap.size := World.block_lt_of_cell? w1 _ c0
  have z2 : w.heap.size + 1 < w1.heap.size := World.block_lt_of_cell? w1 _ k0
  have z3 : w.heap.size + 2 < w1.heap.size := World.block_lt_of_cell? w1 _ l0
  clear fr fp fq
  have Hg := hid hg
  clear hg
  go_wp2_with fail
  refine (empty_c b0 b1 b2 b3 _).mono ?_
  rintro e w2 ⟨rfl, rfl⟩
  rw [Hem.out]
  go_wp2_with fail
  have HG := hid (gb_alloc Hg.out (.cells #[.int .i64 b0, .int .i64 b1, .int .i64 b2, .int .i64 b3] 78))
  refine Calls.mono (drawNRGBASrc_c _ (HD.out.kept0 HG.out) (HS.out.kept0 HG.out) hne2 hne3 HR.out HP.out) ?_
  rintro e w3 h3
  have h4 := drawn_of HG.out h3
  obtain ⟨rfl, h5⟩ := h4
  have H5 := hid h5
  clear h3 h5
  go_wp2
  exact bodyPost_ret (v := .tuple #[]) (by simp [results, Tryz.results42]) rfl ⟨rfl, H5.out⟩
end Go.Proofs.YtgjpohmjkhgpfaaGreat

namespace Go.Proofs.YtgjpohmjkhgpfaaGreat
open Go.RowKit

theorem gray_px (op : Nat) (d s : Nat → Int) (ch : Nat) (hs : 0 ≤ s 0 ∧ s 0 ≤ 255) : px0 0 3 op d s ch = if ch = 3 then 255 else s 0 := by
  unfold px0; rw [en0, cl3, cl3, if_pos rfl, mix0_full]
  by_cases h : ch = 3
  · rw [if_pos h, if_pos h]; omega
  · rw [if_neg h, if_neg h]; omega

set_option maxRecDepth 100000 in
set_option maxHeartbeats 8000000 in
theorem drawGray_c {bd pd dh dw bs ps sh sw rx ry xe ye sx sy op : Nat} {dx0 dy0 sx0 sy0 x0 y0 x1 y1 spx spy : Int} {D S : Nat → Nat → Nat → Int} {T1 T2 : TypeId} (w : World)
    (Hd : Pic w bd T1 pd 4 dh dw dx0 dy0 D) (Hs : Pic w bs T2 ps 1 sh sw sx0 sy0 S) (hne2 : bs ≠ pd) (hne3 : ps ≠ pd)
    (HR : Rct x0 y0 x1 y1 dx0 dy0 rx ry xe ye dh dw) (HP : Plc spx spy sx0 sy0 sx sy rx ry xe ye sh sw) :
    Calls Tryz.prog 56 #[.pointer (some ⟨bd, 0, none⟩), vR x0 y0 x1 y1, .pointer (some ⟨bs, 0, none⟩), vP spx spy] w
      (Drawn w pd 4 dh dw rx ry xe ye (fun r c => px0 0 3 op (D r c) (S (sy + (r - ry)) (sx + (c - rx)))) D) := by
  obtain ⟨nd, cd, st, d0, d1, d2, d3, -, -, b1, hpd, hnd, hst, hcd, hmx, hne, l7, l8, v1, v2, v3, v4, hB⟩ := Hd.cells
  obtain ⟨ns, cs, ss, s0, s1, s2, s3, -, -, b2, hps, hns, hss, hcs, hmx2, -, l9, l10, v5, v6, v7, v8, hBs⟩ := Hs.cells
  obtain ⟨e1, e2, e3, e4, l1, l2, l3, l4⟩ := HR
  obtain ⟨e5, e6, l5, l6⟩ := HP
  have a1 : -4000 ≤ x0 ∧ x0 ≤ 4000 ∧ -4000 ≤ y0 ∧ y0 ≤ 4000 := by omega
  have a2 : -4000 ≤ x1 ∧ x1 ≤ 4000 ∧ -4000 ≤ y1 ∧ y1 ≤ 4000 := by omega
  have a3 : -4000 ≤ spx ∧ spx ≤ 4000 ∧ -4000 ≤ spy ∧ spy ≤ 4000 := by omega
  have q1 : st ≤ 512 := by omega
  have q2 : ss ≤ 1024 := by omega
  have Hnd := hid hnd
  have Hns := hid hns
  have Hst := hid hst
  have Hss := hid hss
  have HB := hid hB
  have HBs := hid hBs
  have HHd := hid Hd
  have HHs := hid Hs
  clear hnd hns hst hss hB hBs Hd Hs
  obtain ⟨F, hF⟩ : ∃ F : Nat → Nat → Nat → Int, F = fun r c => px0 0 3 op (D r c) (S (sy + (r - ry)) (sx + (c - rx))) := ⟨_, rfl⟩
  rw [← hF]
  have HF := hid hF
  clear hF
  go_enter Tryz.func56, Tryz.ntmps56
  go_wp2
  go_quiet (fail)
  go_wp2
  go_quiet (fail)
  go_wp2
  go_quiet (fail)
  go_wp2
  go_quiet (fail)
  go_wp2
  go_quiet (fail)
  go_wp2
  go_quiet (fail)
  go_wp2
  go_loopw [12, 13] (fun u v wr => ∃ j : Nat, ry + j ≤ ye ∧ u = .int .i64 ((ry + j : Nat) : Int) ∧ v = .int .i64 ((sy + j : Nat) : Int) ∧ w.grownBy wr (some pd) ∧
       PixI wr pd dh dw 4 (pt (fw rx xe ry j 0) F D)) (fun u _ _ => ye - (intOf u).toNat)
  case atStart =>
    refine ⟨0, by omega, rfl, rfl, by (repeat (first | exact gb_refl _ _ | refine gb_drewN ?_ _ | refine gb_alloc ?_ _)), ?_⟩
    exact pt_start (by (repeat (first | exact hpd | refine PixI.drewN ?_ _ | refine PixI.alloc ?_ _))) (fun r c _ _ => by unfold fw; omega)
  case round =>
    obtain ⟨j, hj, rfl, rfl, hgb, hg'⟩ := hrel
    have D0 : wr.cell? ⟨bd, 0, none⟩ = some (.slice (some ⟨pd, 0, none⟩) nd cd) := (gb_cell hgb b1 hne).trans d0
    have D1 : wr.cell? ⟨bd, 1, none⟩ = some (.int .i64 st) := (gb_cell hgb b1 hne).trans d1
    have S0 : wr.cell? ⟨bs, 0, none⟩ = some (.slice (some ⟨ps, 0, none⟩) ns cs) := (gb_cell hgb b2 hne2).trans s0
    have S1 : wr.cell? ⟨bs, 1, none⟩ = some (.int .i64 ss) := (gb_cell hgb b2 hne2).trans s1
    clear d0 d1 s0 s1 hpd
    by_cases hlt : ry + j < ye
    · obtain ⟨ro, hro⟩ : ∃ ro : Nat, (ry + j) * st = ro := ⟨_, rfl⟩
      obtain ⟨so, hso⟩ : ∃ so : Nat, (sy + j) * ss = so := ⟨_, rfl⟩
      have f1 : ((ry : Int) + j) * st = ro := by rw [← hro]; push_cast; rfl
      have f2 : ((sy : Int) + j) * ss = so := by rw [← hso]; push_cast; rfl
      have f3 : ro + xe * 4 ≤ nd := by
        have hh := pix_bound (h := dh) (wd := dw) (k := 4) (r := ry + j) (c := xe - 1) (ch := 3) (by omega) (by omega) (by omega)
        rw [Hst.out, hro] at hh; rw [Hnd.out]; omega
      have f4 : so + (sx + (xe - rx)) * 1 ≤ ns := by
        have hh := pix_bound (h := sh) (wd := sw) (k := 1) (r := sy + j) (c := sx + (xe - rx) - 1) (ch := 1 - 1) (by omega) (by omega) (by omega)
        rw [Hss.out, hso] at hh; rw [Hns.out]; omega
      have Hro := hid hro
      have Hso := hid hso
      clear hro hso
      go_wp2
      go_quiet (fail)
      go_wp2
      go_quiet (fail)
      go_wp2
      obtain ⟨wo, ho⟩ : ∃ wo : World, wo = wr := ⟨_, rfl⟩
      clear f1 f2
      go_loopw [16, 17] (fun u v wr => ∃ i : Nat, rx + i ≤ xe ∧ u = .int .i64 (((rx + i) * 4 : Nat) : Int) ∧ v = .int .i64 (((sx + i) * 1 : Nat) : Int) ∧ w.grownBy wr (some pd) ∧
           PixI wr pd dh dw 4 (pt (fw rx xe ry j i) F D)) (fun u _ _ => xe * 4 - (intOf u).toNat)
      case atStart => exact ⟨0, by omega, by first | (simp; done) | go_num, by first | (simp; done) | go_num, by (repeat (first | exact hgb | refine gb_drewN ?_ _ | refine gb_alloc ?_ _)), hg'⟩
      case round =>
        clear ho wo D0 D1 S0 S1 hg' hgb
        obtain ⟨i, hi, rfl, rfl, hgb, hg⟩ := hrel
        have hpsr : PixI wr ps sh sw 1 S := hps.kept (gb_block hgb hps.lt hne3)
        by_cases hlti : rx + i < xe
        · obtain ⟨dp, hdp⟩ : ∃ dp : Nat → Int, D (ry + j) (rx + i) = dp := ⟨_, rfl⟩
          obtain ⟨sp, hsp⟩ : ∃ sp : Nat → Int, S (sy + j) (sx + i) = sp := ⟨_, rfl⟩
          have hFv : F (ry + j) (rx + i) = px0 0 3 op dp sp := by
            rw [HF.out]; dsimp only; rw [hdp, show sy + (ry + j - ry) = sy + j by omega, show sx + (rx + i - rx) = sx + i by omega, hsp]
          have bdp : By dp := by rw [← hdp]; exact HB.out _ _
          have bsp : By sp := by rw [← hsp]; exact HBs.out _ _
          have C0 : wr.cell? ⟨ps, so + (sx + i), none⟩ = some (.int .u8 (sp 0)) := by
            rw [← hsp]; exact hpsr.cell (by omega) (by omega) (by omega) (by rw [Hss.out, Hso.out]; omega)
          have k0 := hg.cell (r := ry + j) (c := rx + i) (ch := 0) (i := ro + (rx + i) * 4) (by omega) (by omega) (by omega) (by rw [Hst.out, Hro.out]; rfl)
          have k1 := hg.cell (r := ry + j) (c := rx + i) (ch := 1) (i := ro + (rx + i) * 4 + 1) (by omega) (by omega) (by omega) (by rw [Hst.out, Hro.out])
          have k2 := hg.cell (r := ry + j) (c := rx + i) (ch := 2) (i := ro + (rx + i) * 4 + 2) (by omega) (by omega) (by omega) (by rw [Hst.out, Hro.out])
          have k3 := hg.cell (r := ry + j) (c := rx + i) (ch := 3) (i := ro + (rx + i) * 4 + 3) (by omega) (by omega) (by omega) (by rw [Hst.out, Hro.out])
          rw [pt_neg (by unfold fw; omega), hdp] at k0 k1 k2 k3
          have F0 := fun k => hg.free k
          have B0 := bdp 0; have B1 := bdp 1; have B2 := bdp 2; have B3 := bdp 3

          have HFv := hid hFv
          have Hg := hid hg
          have Hdp := hid (And.intro hdp bdp)
          have Hsp := hid (And.intro hsp bsp)
          have Hps := hid hpsr
          clear hg hdp hsp bdp bsp hFv hpsr
          have hne4 : pd ≠ ps := fun e => hne3 e.symm
          go_wp2
          refine ⟨⟨i + 1, by omega, by go_num, by go_num, ?_, ?_⟩, by simp [intOf]; omega⟩
          · exact gb_setCell (gb_setCell (gb_setCell (gb_setCell hgb (.inl rfl) _) (.inl rfl) _) (.inl rfl) _) (.inl rfl) _
          · refine pix4 (dn := fw rx xe ry j i) Hg.out (r := ry + j) (c := rx + i) (by omega) (by omega) (by rw [Hst.out, Hro.out]) (fun r' c' => by unfold fw; omega) ?_ ?_ ?_ ?_
            all_goals (rw [HFv.out])
            all_goals (rw [gray_px _ _ _ _ (Hsp.out.2 0)]; simp)
        · go_wp2
          refine ⟨⟨j + 1, by omega, by go_num, by go_num, hgb, ?_⟩, by simp [intOf]; omega⟩
          exact pt_turn hg (fun r c _ _ => by unfold fw; omega)
    · go_wp2
      go_end0
      exact ⟨rfl, hgb, pt_turn hg' (fun r c _ _ => by unfold fw inR; omega)⟩
end Go.Proofs.YtgjpohmjkhgpfaaGreat
