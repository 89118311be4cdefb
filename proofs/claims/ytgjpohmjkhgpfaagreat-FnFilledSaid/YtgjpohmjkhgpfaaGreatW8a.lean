/- image/draw: drawFillOver: each pixel of the rectangle is composed with one color, all others stay. The rectangle lies in the image. -/
import Derived.Test.YtgjpohmjkhgpfaaGreatW6
import Derived.Test.YtgjpohmjkhgpfaaGreatC
set_option linter.unusedSimpArgs false
set_option linter.unusedVariables false
namespace Go.Proofs.YtgjpohmjkhgpfaaGreat
open Go.RowKit

theorem fill_px {s d : Nat → Int} {c : Nat → Int} (h : ∀ i, cl 6 s i = c i) (ch : Nat) : px0 0 6 0 d s ch = (d ch * ((65535 - c 3) * 257) / 65535 + c ch) / 256 := by
  unfold px0 mix0; rw [en0, if_pos rfl, cl0, rest8_eq, h, h]

set_option maxRecDepth 100000 in
set_option maxHeartbeats 8000000 in
theorem drawFillOver_c {bd pd dh dw rx ry xe ye : Nat} {dx0 dy0 x0 y0 x1 y1 : Int} {D : Nat → Nat → Nat → Int} {T1 : TypeId} {s c : Nat → Int} (w : World)
    (Hd : Pic w bd T1 pd 4 dh dw dx0 dy0 D) (HR : Rct x0 y0 x1 y1 dx0 dy0 rx ry xe ye dh dw) (hs : By s) (hcs : ∀ i, cl 6 s i = c i) (hpm : Pm 6 s) :
    Calls Tryz.prog 52 #[.pointer (some ⟨bd, 0, none⟩), vR x0 y0 x1 y1, .int .u32 (c 0), .int .u32 (c 1), .int .u32 (c 2), .int .u32 (c 3)] w
      (Drawn w pd 4 dh dw rx ry xe ye (fun r cc => px0 0 6 0 (D r cc) s) D) := by
  obtain ⟨nd, cd, st, d0, d1, d2, d3, -, -, b1, hpd, hnd, hst, hcd, hmx, hne, l7, l8, v1, v2, v3, v4, hB⟩ := Hd.cells
  obtain ⟨e1, e2, e3, e4, l1, l2, l3, l4⟩ := HR
  have a1 : -4000 ≤ x0 ∧ x0 ≤ 4000 ∧ -4000 ≤ y0 ∧ y0 ≤ 4000 := by omega
  have a2 : -4000 ≤ x1 ∧ x1 ≤ 4000 ∧ -4000 ≤ y1 ∧ y1 ≤ 4000 := by omega
  have q1 : st ≤ 512 := by omega
  have s0 : 0 ≤ c 0 ∧ c 0 ≤ 65535 := by rw [← hcs]; exact cl_range hs _
  have s1 : 0 ≤ c 1 ∧ c 1 ≤ 65535 := by rw [← hcs]; exact cl_range hs _
  have s2 : 0 ≤ c 2 ∧ c 2 ≤ 65535 := by rw [← hcs]; exact cl_range hs _
  have s3 : 0 ≤ c 3 ∧ c 3 ≤ 65535 := by rw [← hcs]; exact cl_range hs _
  have m0 : c 0 ≤ c 3 := by have := hpm 0 (by omega); rw [hcs, hcs] at this; exact this
  have m1 : c 1 ≤ c 3 := by have := hpm 1 (by omega); rw [hcs, hcs] at this; exact this
  have m2 : c 2 ≤ c 3 := by have := hpm 2 (by omega); rw [hcs, hcs] at this; exact this
  have Hnd := hid hnd
  have Hst := hid hst
  have HB := hid hB
  have HHd := hid Hd
  have Hpl := hid hpd.lt
  have Hcs := hid hcs
  have hbb : nd ≤ 65536 := by
    rw [hnd]; exact Nat.le_trans (Nat.mul_le_mul l8 q1) (by omega)
  clear hnd hst hB Hd hcs hpm hs
  obtain ⟨F, hF⟩ : ∃ F : Nat → Nat → Nat → Int, F = fun r cc => px0 0 6 0 (D r cc) s := ⟨_, rfl⟩
  rw [← hF]
  have HF := hid hF
  clear hF
  go_enter Tryz.func52, Tryz.ntmps52
  go_wp2_with fail
  refine (off_RGBA bd st ry rx (ry * st + rx * 4) _ _ _ _ _ (by go_simp) (by go_simp) (by go_simp) e1 e2 (by omega) (by omega) (by omega) rfl).mono ?_
  rintro e w1 ⟨rfl, hg1⟩
  obtain ⟨c1, f1⟩ := gb_rules hg1
  have z1 : w.heap.size < w1.heap.size := by have := hg1.size; simp at this; omega
  have t1 : bd < w1.heap.size := by omega
  have zz : w.heap.size ≤ w.heap.size := Nat.le_refl _
  obtain ⟨q0, hq0⟩ : ∃ q0 : Nat, ry * st + rx * 4 = q0 := ⟨_, rfl⟩
  have hqb : q0 ≤ 70000 := by
    rw [← hq0]; have := Nat.mul_le_mul (show ry ≤ 128 by omega) q1; omega
  rw [hq0]
  have Hq0 := hid hq0
  clear hq0
  go_wp2_with fail
  refine (dx_c x0 y0 x1 y1 _ (by unfold sm; omega) (by unfold sm; omega)).mono ?_
  rintro e w2 ⟨rfl, rfl⟩
  go_wp2_with fail
  go_loopw [15, 13, 14] (fun y u v wr => ∃ j ro : Nat, ry + j ≤ ye ∧ ro = (ry + j) * st ∧ y = .int .i64 (y0 + j) ∧ u = .int .i64 ((ro + rx * 4 : Nat) : Int) ∧ v = .int .i64 ((ro + xe * 4 : Nat) : Int) ∧ w.grownBy wr (some pd) ∧
       PixI wr pd dh dw 4 (pt (fw rx xe ry j 0) F D) ∧ wr.cell? ⟨w.heap.size, 2, none⟩ = some (.int .i64 x1) ∧ wr.cell? ⟨w.heap.size, 3, none⟩ = some (.int .i64 y1)) (fun y _ _ _ => (y1 - intOf y).toNat)
  case atStart =>
    have hq0 := Hq0.out
    refine ⟨0, ry * st, by omega, by simp, by simp, ?_, ?_, ?_, ?_, ?_, ?_⟩
    · rw [← hq0]
    · congr 1; push_cast; have : ((ry * st + rx * 4 : Nat) : Int) = q0 := by rw [hq0]
      push_cast at this; omega
    · exact gb_alloc (gb_trans' (gb_alloc (gb_refl _ _) _) hg1) _
    · refine pt_start (PixI.alloc ?_ _) (fun r c _ _ => by unfold fw; omega)
      exact PixI.kept (PixI.alloc hpd _) (gb_block0 hg1 (by simp; have := hpd.lt; omega))
    · go_simp
    · go_simp
  case round =>
    obtain ⟨j, ro, hj, hro, rfl, rfl, rfl, hgb, hg', R2, R3⟩ := hrel
    have HC := hid (And.intro d0 d1)
    have D0 : wr.cell? ⟨bd, 0, none⟩ = some (.slice (some ⟨pd, 0, none⟩) nd cd) := (gb_cell hgb b1 hne).trans d0
    have D1 : wr.cell? ⟨bd, 1, none⟩ = some (.int .i64 st) := (gb_cell hgb b1 hne).trans d1
    clear d0 d1 hpd c1 f1
    by_cases hlt : ry + j < ye
    · have hn1 : ¬ (y0 + (j : Int) = y1) := by omega
      have hrb : ro + xe * 4 ≤ nd := by
        have hh := pix_bound (h := dh) (wd := dw) (k := 4) (r := ry + j) (c := xe - 1) (ch := 3) (by omega) (by omega) (by omega)
        rw [Hst.out, ← hro] at hh; rw [Hnd.out]; omega
      have Hro := hid hro
      clear hro
      go_wp2
      obtain ⟨wo, ho⟩ : ∃ wo : World, wo = wr := ⟨_, rfl⟩
      go_loopw [16] (fun u wr => ∃ i : Nat, rx + i ≤ xe ∧ u = .int .i64 ((ro + (rx + i) * 4 : Nat) : Int) ∧ w.grownBy wr (some pd) ∧
           PixI wr pd dh dw 4 (pt (fw rx xe ry j i) F D) ∧ wr.cell? ⟨w.heap.size, 2, none⟩ = some (.int .i64 x1) ∧ wr.cell? ⟨w.heap.size, 3, none⟩ = some (.int .i64 y1)) (fun u _ => (ro + xe * 4) - (intOf u).toNat)
      case atStart => exact ⟨0, by omega, by first | rfl | (simp; done) | go_num, hgb, hg', R2, R3⟩
      case round =>
        clear ho wo D0 D1 hg' hgb R2 R3
        obtain ⟨i, hi, rfl, hgb, hg, R2, R3⟩ := hrel
        have D0 : wr.cell? ⟨bd, 0, none⟩ = some (.slice (some ⟨pd, 0, none⟩) nd cd) := (gb_cell hgb b1 hne).trans HC.out.1
        have D1 : wr.cell? ⟨bd, 1, none⟩ = some (.int .i64 st) := (gb_cell hgb b1 hne).trans HC.out.2
        by_cases hlti : rx + i < xe
        · obtain ⟨dp, hdp⟩ : ∃ dp : Nat → Int, D (ry + j) (rx + i) = dp := ⟨_, rfl⟩
          have hFv : F (ry + j) (rx + i) = px0 0 6 0 dp s := by rw [HF.out]; dsimp only; rw [hdp]
          have bdp : By dp := by rw [← hdp]; exact HB.out _ _
          have k0 := hg.cell (r := ry + j) (c := rx + i) (ch := 0) (i := ro + (rx + i) * 4) (by omega) (by omega) (by omega) (by rw [Hst.out, Hro.out]; rfl)
          have k1 := hg.cell (r := ry + j) (c := rx + i) (ch := 1) (i := ro + (rx + i) * 4 + 1) (by omega) (by omega) (by omega) (by rw [Hst.out, Hro.out])
          have k2 := hg.cell (r := ry + j) (c := rx + i) (ch := 2) (i := ro + (rx + i) * 4 + 2) (by omega) (by omega) (by omega) (by rw [Hst.out, Hro.out])
          have k3 := hg.cell (r := ry + j) (c := rx + i) (ch := 3) (i := ro + (rx + i) * 4 + 3) (by omega) (by omega) (by omega) (by rw [Hst.out, Hro.out])
          rw [pt_neg (by unfold fw; omega), hdp] at k0 k1 k2 k3
          have F0 := fun k => hg.free k
          have B0 := bdp 0; have B1 := bdp 1; have B2 := bdp 2; have B3 := bdp 3
          have Q0 := rest8_le B0.1 B0.2 (show 0 ≤ 65535 - c 3 by omega)
          have Q1 := rest8_le B1.1 B1.2 (show 0 ≤ 65535 - c 3 by omega)
          have Q2 := rest8_le B2.1 B2.2 (show 0 ≤ 65535 - c 3 by omega)
          have Q3 := rest8_le B3.1 B3.2 (show 0 ≤ 65535 - c 3 by omega)
          have hpl := hg.lt
          have hne5 : pd ≠ w.heap.size := by have := Hpl.out; omega
          have HFv := hid hFv
          have Hg := hid hg
          have Hdp := hid (And.intro hdp bdp)
          clear hg hdp bdp hFv
          go_wp2
          refine ⟨⟨i + 1, by omega, by go_num, ?_, ?_, ?_, ?_⟩, by simp [intOf]; omega⟩
          · exact gb_setCell (gb_setCell (gb_setCell (gb_setCell hgb (.inl rfl) _) (.inl rfl) _) (.inl rfl) _) (.inl rfl) _
          · refine pix4 (dn := fw rx xe ry j i) Hg.out (r := ry + j) (c := rx + i) (by omega) (by omega) (by rw [Hst.out, Hro.out]) (fun r' c' => by unfold fw; omega) ?_ ?_ ?_ ?_
            all_goals (rw [HFv.out, fill_px Hcs.out])
          · go_simp
          · go_simp
        · go_wp2
          refine ⟨⟨j + 1, ro + st, by omega, next_row Hro.out, by go_num, by go_num, by go_num, hgb, ?_, R2, R3⟩, by simp [intOf]; omega⟩
          exact pt_turn hg (fun r c _ _ => by unfold fw; omega)
    · have hn1 : y0 + (j : Int) = y1 := by omega
      go_wp2
      go_end0
      exact ⟨rfl, hgb, pt_turn hg' (fun r c _ _ => by unfold fw inR; omega)⟩
end Go.Proofs.YtgjpohmjkhgpfaaGreat
