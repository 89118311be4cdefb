/- image/draw: drawFillSrc: each pixel of the rectangle is one color, all others stay. The rectangle lies in the image. -/
import Derived.Test.YtgjpohmjkhgpfaaGreatW6
import Derived.Test.YtgjpohmjkhgpfaaGreatC
set_option linter.unusedSimpArgs false
set_option linter.unusedVariables false
namespace Go.Proofs.YtgjpohmjkhgpfaaGreat
open Go.RowKit

theorem fills_px {s d : Nat → Int} {c : Nat → Int} (h : ∀ i, cl 6 s i = c i) (ch : Nat) : px0 0 6 1 d s ch = c ch / 256 := by
  unfold px0 mix0; rw [en0, if_neg (by omega), h]

set_option maxRecDepth 100000 in
set_option maxHeartbeats 8000000 in
theorem drawFillSrc_c {bd pd dh dw rx ry xe ye : Nat} {dx0 dy0 x0 y0 x1 y1 : Int} {D : Nat → Nat → Nat → Int} {T1 : TypeId} {s c : Nat → Int} (w : World)
    (Hd : Pic w bd T1 pd 4 dh dw dx0 dy0 D) (HR : Rct x0 y0 x1 y1 dx0 dy0 rx ry xe ye dh dw) (hs : By s) (hcs : ∀ i, cl 6 s i = c i) :
    Calls Tryz.prog 51 #[.pointer (some ⟨bd, 0, none⟩), vR x0 y0 x1 y1, .int .u32 (c 0), .int .u32 (c 1), .int .u32 (c 2), .int .u32 (c 3)] w
      (Drawn w pd 4 dh dw rx ry xe ye (fun r cc => px0 0 6 1 (D r cc) s) D) := by
  obtain ⟨nd, cd, st, d0, d1, d2, d3, -, -, b1, hpd, hnd, hst, hcd, hmx, hne, l7, l8, v1, v2, v3, v4, hB⟩ := Hd.cells
  obtain ⟨e1, e2, e3, e4, l1, l2, l3, l4⟩ := HR
  have a1 : -4000 ≤ x0 ∧ x0 ≤ 4000 ∧ -4000 ≤ y0 ∧ y0 ≤ 4000 := by omega
  have a2 : -4000 ≤ x1 ∧ x1 ≤ 4000 ∧ -4000 ≤ y1 ∧ y1 ≤ 4000 := by omega
  have q1 : st ≤ 512 := by omega
  have s0 : 0 ≤ c 0 ∧ c 0 ≤ 65535 := by rw [← hcs]; exact cl_range hs _
  have s1 : 0 ≤ c 1 ∧ c 1 ≤ 65535 := by rw [← hcs]; exact cl_range hs _
  have s2 : 0 ≤ c 2 ∧ c 2 ≤ 65535 := by rw [← hcs]; exact cl_range hs _
  have s3 : 0 ≤ c 3 ∧ c 3 ≤ 65535 := by rw [← hcs]; exact cl_range hs _
  have Hnd := hid hnd
  have Hst := hid hst
  have HB := hid hB
  have HHd := hid Hd
  have Hpl := hid hpd.lt
  have Hcs := hid hcs
  have hbb : nd ≤ 65536 := by
    rw [hnd]; exact Nat.le_trans (Nat.mul_le_mul l8 q1) (by omega)
  clear hnd hst hB Hd hcs hs
  obtain ⟨F, hF⟩ : ∃ F : Nat → Nat → Nat → Int, F = fun r cc => px0 0 6 1 (D r cc) s := ⟨_, rfl⟩
  rw [← hF]
  have HF := hid hF
  clear hF
  have u0 := dv256 s0; have u1 := dv256 s1; have u2 := dv256 s2; have u3 := dv256 s3
  go_enter Tryz.func51, Tryz.ntmps51
  go_wp2_with fail
  refine (off_RGBA bd st ry rx (ry * st + rx * 4) _ _ _ _ _ (by go_simp) (by go_simp) (by go_simp) e1 e2 (by omega) (by omega) (by omega) rfl).mono ?_
  rintro e w1 ⟨rfl, hg1⟩
  obtain ⟨c1, f1⟩ := gb_rules hg1
  have z1 : w.heap.size < w1.heap.size := by have := hg1.size; simp at this; omega
  have t1 : bd < w1.heap.size := by omega
  obtain ⟨q0, hq0⟩ : ∃ q0 : Nat, ry * st = q0 := ⟨_, rfl⟩
  have hrb : q0 + xe * 4 ≤ nd := by
    have hh := pix_bound (h := dh) (wd := dw) (k := 4) (r := ry) (c := xe - 1) (ch := 3) (by omega) (by omega) (by omega)
    rw [Hst.out, hq0] at hh; rw [Hnd.out]; omega
  rw [hq0]
  have Hq0 := hid hq0
  clear hq0
  have E1 : (q0 : Int) + rx * 4 + (x1 - x0) * 4 = (q0 : Int) + xe * 4 := by omega
  go_wp2_with fail
  refine (dx_c x0 y0 x1 y1 _ (by unfold sm; omega) (by unfold sm; omega)).mono ?_
  rintro e w2 ⟨rfl, rfl⟩
  go_wp2_with fail
  go_loopw [18] (fun u wr => ∃ i : Nat, rx + i ≤ xe ∧ u = .int .i64 ((q0 + (rx + i) * 4 : Nat) : Int) ∧ w.grownBy wr (some pd) ∧
       PixI wr pd dh dw 4 (pt (fw rx xe ry 0 i) F D) ∧ wr.cell? ⟨w.heap.size, 1, none⟩ = some (.int .i64 y0) ∧ wr.cell? ⟨w.heap.size, 3, none⟩ = some (.int .i64 y1)) (fun u _ => (q0 + xe * 4) - (intOf u).toNat)
  case atStart =>
    refine ⟨0, by omega, rfl, ?_, ?_, ?_, ?_⟩
    · exact gb_alloc (gb_trans' (gb_alloc (gb_refl _ _) _) hg1) _
    · refine pt_start (PixI.alloc ?_ _) (fun r c _ _ => by unfold fw; omega)
      exact PixI.kept (PixI.alloc hpd _) (gb_block0 hg1 (by simp; have := hpd.lt; omega))
    · go_simp
    · go_simp
  case round =>
    obtain ⟨i, hi, rfl, hgb, hg, R1, R3⟩ := hrel
    have HC := hid (And.intro d0 d1)
    have D0 : wr.cell? ⟨bd, 0, none⟩ = some (.slice (some ⟨pd, 0, none⟩) nd cd) := (gb_cell hgb b1 hne).trans d0
    have D1 : wr.cell? ⟨bd, 1, none⟩ = some (.int .i64 st) := (gb_cell hgb b1 hne).trans d1
    clear d0 d1 hpd c1 f1 E1
    by_cases hlti : rx + i < xe
    · have k0 := hg.cell (r := ry) (c := rx + i) (ch := 0) (i := q0 + (rx + i) * 4) (by omega) (by omega) (by omega) (by rw [Hst.out, Hq0.out]; rfl)
      have k1 := hg.cell (r := ry) (c := rx + i) (ch := 1) (i := q0 + (rx + i) * 4 + 1) (by omega) (by omega) (by omega) (by rw [Hst.out, Hq0.out])
      have k2 := hg.cell (r := ry) (c := rx + i) (ch := 2) (i := q0 + (rx + i) * 4 + 2) (by omega) (by omega) (by omega) (by rw [Hst.out, Hq0.out])
      have k3 := hg.cell (r := ry) (c := rx + i) (ch := 3) (i := q0 + (rx + i) * 4 + 3) (by omega) (by omega) (by omega) (by rw [Hst.out, Hq0.out])
      have F0 := fun k => hg.free k
      have hpl := hg.lt
      have hne5 : pd ≠ w.heap.size := by have := Hpl.out; omega
      have Hg := hid hg
      clear hg
      go_wp2
      refine ⟨⟨i + 1, by omega, by go_num, ?_, ?_, ?_, ?_⟩, by simp [intOf]; omega⟩
      · exact gb_setCell (gb_setCell (gb_setCell (gb_setCell hgb (.inl rfl) _) (.inl rfl) _) (.inl rfl) _) (.inl rfl) _
      · refine pix4 (dn := fw rx xe ry 0 i) Hg.out (r := ry) (c := rx + i) (by omega) (by omega) (by rw [Hst.out, Hq0.out]) (fun r' c' => by unfold fw; omega) ?_ ?_ ?_ ?_
        all_goals (rw [HF.out]; dsimp only; rw [fills_px Hcs.out])
      · go_simp
      · go_simp
    · have hg1 := pt_turn hg (dn' := fw rx xe ry 1 0) (fun r c _ _ => by unfold fw; omega)
      clear hg
      go_wp2
      clear D0 D1
      go_loopw [20, 16, 17] (fun y u v wr => ∃ j ro : Nat, ry + j < ye ∧ ro = (ry + j) * st ∧ y = .int .i64 (y0 + j + 1) ∧ u = .int .i64 ((ro + rx * 4 : Nat) : Int) ∧ v = .int .i64 ((ro + xe * 4 : Nat) : Int) ∧ w.grownBy wr (some pd) ∧
           PixI wr pd dh dw 4 (pt (fw rx xe ry (j + 1) 0) F D) ∧ wr.cell? ⟨w.heap.size, 3, none⟩ = some (.int .i64 y1)) (fun y _ _ _ => (y1 - intOf y).toNat)
      case atStart => exact ⟨0, q0, by omega, by rw [← Hq0.out]; rfl, by simp, by simp, by simp, hgb, hg1, R3⟩
      case round =>
        clear hgb hg1 R1 R3
        obtain ⟨j, ro, hj, hro, rfl, rfl, rfl, hgb, hg', R3⟩ := hrel
        have D0 : wr.cell? ⟨bd, 0, none⟩ = some (.slice (some ⟨pd, 0, none⟩) nd cd) := (gb_cell hgb b1 hne).trans HC.out.1
        have D1 : wr.cell? ⟨bd, 1, none⟩ = some (.int .i64 st) := (gb_cell hgb b1 hne).trans HC.out.2
        by_cases hlt : ry + j + 1 < ye
        · have hrb : ro + st + xe * 4 ≤ nd := by
            have hh := pix_bound (h := dh) (wd := dw) (k := 4) (r := ry + j + 1) (c := xe - 1) (ch := 3) (by omega) (by omega) (by omega)
            rw [Hst.out, Nat.add_mul, ← hro] at hh; rw [Hnd.out]; omega
          have Hro := hid hro
          clear hro
          have Hg := hid hg'
          clear hg'
          obtain ⟨w2, hrun, hgb2, hg2, hc2⟩ := copy_pix (w0 := w) (R := Tryz.prog) (dn' := fw rx xe ry (j + 2) 0) 22 22 3 _ Tryz.underlying22 (by kernel_rfl) (ry + j + 1) rx (xe - rx) (ro + rx * 4 + st) (ro + xe * 4 + st - (ro + rx * 4 + st)) (cd - (ro + rx * 4 + st)) pd
            (q0 + rx * 4) (q0 + xe * 4 - (q0 + rx * 4)) (cd - (q0 + rx * 4)) Hg.out (by omega) (by omega) (by omega) (by omega) (by rw [Hst.out, Nat.add_mul, ← Hro.out]; omega) (by omega) (by omega) (by
              intro c ch hc hch
              have := Hg.out.cell (r := ry) (c := rx + c) (ch := ch) (i := q0 + rx * 4 + (c * 4 + ch)) (by omega) (by omega) hch (by rw [Hst.out, Hq0.out]; omega)
              rw [pt_pos (by unfold fw; omega), HF.out] at this
              rw [this, HF.out]; dsimp only; rw [fills_px Hcs.out, fills_px Hcs.out])
            (fun r' c' => by unfold fw; omega) hgb
          go_wp2
          refine ⟨⟨j + 1, ro + st, by omega, next_row Hro.out, by go_num, by go_num, by go_num, hgb2, hg2, ?_⟩, by simp [intOf]; omega⟩
          rw [hc2 _ _ (by have := Hpl.out; omega)]; exact R3
        · go_wp2
          go_end0
          exact ⟨rfl, hgb, pt_turn hg' (fun r c _ _ => by unfold fw inR; omega)⟩
end Go.Proofs.YtgjpohmjkhgpfaaGreat
