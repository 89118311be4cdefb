/- image/draw: clip: the rectangle is cut to the images' bounds, and the points move with it. No condition. -/
import Derived.Test.YtgjpohmjkhgpfaaGreatV0
set_option linter.unusedSimpArgs false
set_option linter.unusedVariables false
namespace Go.Proofs.YtgjpohmjkhgpfaaGreat
open Go.RowKit

set_option maxRecDepth 100000 in
set_option maxHeartbeats 8000000 in
theorem clip0_c {w0 w : World} {br bp bq : Nat} {td ts : TypeId} {vd vs : Value} {x0 y0 x1 y1 px py qx qy d0 d1 d2 d3 s0 s1 s2 s3 a0 a1 a2 a3 b0 b1 b2 b3 : Int}
    (hg0 : w0.grownBy w none) (hbr : w0.heap.size ≤ br) (hbp : w0.heap.size ≤ bp) (hbq : w0.heap.size ≤ bq) (n1 : br ≠ bp) (n2 : br ≠ bq) (n3 : bp ≠ bq)
    (hd : Bd w0 td vd d0 d1 d2 d3) (hs : Bd w0 ts vs s0 s1 s2 s3) (hc : Cp w br bp bq x0 y0 x1 y1 px py qx qy)
    (sx0 : sm x0) (sy0 : sm y0) (spx : sm px) (spy : sm py) (sqx : sm qx) (sqy : sm qy) (ss0 : sm s0) (ss1 : sm s1) (ss2 : sm s2) (ss3 : sm s3) (sd0 : sm (x0 - px)) (sd1 : sm (y0 - py))
    (ha0 : ia 0 x0 y0 x1 y1 d0 d1 d2 d3 = a0) (ha1 : ia 1 x0 y0 x1 y1 d0 d1 d2 d3 = a1) (ha2 : ia 2 x0 y0 x1 y1 d0 d1 d2 d3 = a2) (ha3 : ia 3 x0 y0 x1 y1 d0 d1 d2 d3 = a3)
    (hb0 : ia 0 a0 a1 a2 a3 (s0 + (x0 - px)) (s1 + (y0 - py)) (s2 + (x0 - px)) (s3 + (y0 - py)) = b0) (hb1 : ia 1 a0 a1 a2 a3 (s0 + (x0 - px)) (s1 + (y0 - py)) (s2 + (x0 - px)) (s3 + (y0 - py)) = b1)
    (hb2 : ia 2 a0 a1 a2 a3 (s0 + (x0 - px)) (s1 + (y0 - py)) (s2 + (x0 - px)) (s3 + (y0 - py)) = b2) (hb3 : ia 3 a0 a1 a2 a3 (s0 + (x0 - px)) (s1 + (y0 - py)) (s2 + (x0 - px)) (s3 + (y0 - py)) = b3)
    (sr0 : sm b0) (sr1 : sm b1) :
    Calls Tryz.prog 48 #[.iface td vd, .pointer (some ⟨br, 0, none⟩), .iface ts vs, .pointer (some ⟨bp, 0, none⟩), .nilIface, .pointer (some ⟨bq, 0, none⟩)] w fun e w' =>
      e = .returned (.tuple #[]) ∧ w0.grownBy w' none ∧ Cp w' br bp bq b0 b1 b2 b3 (px + (b0 - x0)) (py + (b1 - y0)) (qx + (b0 - x0)) (qy + (b1 - y0)) := by
  obtain ⟨f, hF, hf, hf2⟩ := hd
  obtain ⟨g, hG, hgm, hg2⟩ := hs
  obtain ⟨c0', c1', c2', c3', p0, p1, q0, q1, fr, fp, fq⟩ := hc
  have lr : br < w.heap.size := World.block_lt_of_cell? w _ c0'
  have lp : bp < w.heap.size := World.block_lt_of_cell? w _ p0
  have lq : bq < w.heap.size := World.block_lt_of_cell? w _ q0
  have nr := Nat.ne_of_lt lr
  unfold Fn at hF hG
  have Ha := hid (And.intro ha0 (And.intro ha1 (And.intro ha2 ha3)))
  have Hb := hid (And.intro hb0 (And.intro hb1 (And.intro hb2 hb3)))
  clear ha0 ha1 ha2 ha3 hb0 hb1 hb2 hb3
  go_enter Tryz.func48, Tryz.ntmps48
  go_upto_region 1 with fail
  go_cut [] (fun wx => w0.grownBy wx none ∧ w.heap.size < wx.heap.size ∧ Cp wx br bp bq a0 a1 a2 a3 px py qx qy ∧ wx.cell? ⟨w.heap.size, 0, none⟩ = some (.int .i64 x0) ∧ wx.cell? ⟨w.heap.size, 1, none⟩ = some (.int .i64 y0))
  case first =>
    have l1 : br < w.heap.size + 1 := by omega
    have l2 : bp < w.heap.size + 1 := by omega
    have l3 : bq < w.heap.size + 1 := by omega
    have HG := hid (gb_alloc hg0 (.cells #[.int .i64 x0, .int .i64 y0] 76))
    have HC := hid (Cp.grown (⟨c0', c1', c2', c3', p0, p1, q0, q1, fr, fp, fq⟩ : Cp w br bp bq x0 y0 x1 y1 px py qx qy) (gb_alloc (gb_refl _ _) (.cells #[.int .i64 x0, .int .i64 y0] 76)))
    have HZ : Hid (w.heap.size < (w.alloc (.cells #[.int .i64 x0, .int .i64 y0] 76)).heap.size) := hid (by simp)
    have HO : Hid ((w.alloc (.cells #[.int .i64 x0, .int .i64 y0] 76)).cell? ⟨w.heap.size, 0, none⟩ = some (.int .i64 x0) ∧ (w.alloc (.cells #[.int .i64 x0, .int .i64 y0] 76)).cell? ⟨w.heap.size, 1, none⟩ = some (.int .i64 y0)) := hid ⟨by go_simp, by go_simp⟩
    obtain ⟨ha0, ha1, ha2, ha3⟩ := Ha.out
    go_region_with (first
      | (go_at_call 74; refine (intersect_c x0 y0 x1 y1 d0 d1 d2 d3 _).mono ?_; rintro e w2 ⟨rfl, hg⟩; rw [isec_ia, ha0, ha1, ha2, ha3]; (have hB := gb_trans (a := w.alloc (.cells #[.int .i64 x0, .int .i64 y0] 76)) (by first | exact gb_drew (gb_refl _ _) | assumption) hg); (have hz := hB.size); (obtain ⟨cc, ff⟩ := gb_rules hB))
      | (refine (hf2 _ (by first | exact gb_drew (gb_alloc hg0 _) | exact gb_trans (gb_alloc hg0 _) (by assumption))).mono ?_; rintro e w2 ⟨rfl, hg⟩; (have hB := gb_trans (a := w.alloc (.cells #[.int .i64 x0, .int .i64 y0] 76)) (by first | exact gb_drew (gb_refl _ _) | assumption) hg); (have hz := hB.size); (obtain ⟨cc, ff⟩ := gb_rules hB)))
    all_goals (go_wp2_with fail; go_meet; exact cp_step HG.out hB hbr HC.out n1 n2 nr HZ.out HO.out.1 HO.out.2)
  case rest =>
  obtain ⟨hg1, hz1, ⟨c0', c1', c2', c3', p0, p1, q0, q1, fr, fp, fq⟩, o0, o1⟩ := hcut
  clear hg0 lr lp lq
  have lr : br < wc.heap.size := World.block_lt_of_cell? wc _ c0'
  have lp : bp < wc.heap.size := World.block_lt_of_cell? wc _ p0
  have lq : bq < wc.heap.size := World.block_lt_of_cell? wc _ q0
  go_upto_region 2 with fail
  go_cut [] (fun wx => w0.grownBy wx none ∧ w.heap.size < wx.heap.size ∧ Cp wx br bp bq b0 b1 b2 b3 px py qx qy ∧ wx.cell? ⟨w.heap.size, 0, none⟩ = some (.int .i64 x0) ∧ wx.cell? ⟨w.heap.size, 1, none⟩ = some (.int .i64 y0))
  case first =>
    obtain ⟨hb0, hb1, hb2, hb3⟩ := Hb.out
    have n4 : br ≠ w.heap.size := nr
    have HG := hid hg1
    have HC := hid (⟨c0', c1', c2', c3', p0, p1, q0, q1, fr, fp, fq⟩ : Cp wc br bp bq a0 a1 a2 a3 px py qx qy)
    have HZ := hid hz1
    have HO := hid (And.intro o0 o1)
    clear nr fp fq
    have nr := n4
    go_region_with
      (first
      | (go_at_call 74; refine (intersect_c a0 a1 a2 a3 (s0 + (x0 - px)) (s1 + (y0 - py)) (s2 + (x0 - px)) (s3 + (y0 - py)) _).mono ?_; rintro e w2 ⟨rfl, hg⟩; rw [isec_ia, hb0, hb1, hb2, hb3]; (have hB := gb_trans (a := wc) (by first | exact gb_drew (gb_refl _ _) | assumption) hg); (have hz := hB.size); (obtain ⟨cc, ff⟩ := gb_rules hB))
      | (go_at_call 75; refine (add_c s0 s1 s2 s3 (x0 - px) (y0 - py) _ ss0 ss1 ss2 ss3 sd0 sd1).mono ?_; rintro e w2 ⟨rfl, hg⟩; (have hB := gb_trans (a := wc) (by first | exact gb_drew (gb_refl _ _) | assumption) hg); (have hz := hB.size); (obtain ⟨cc, ff⟩ := gb_rules hB))
      | (go_at_call 76; refine (sub_c x0 y0 px py _ sx0 sy0 spx spy).mono ?_; rintro e w2 ⟨rfl, hg⟩; (have hB := gb_trans (a := wc) (by first | exact gb_drew (gb_refl _ _) | assumption) hg); (have hz := hB.size); (obtain ⟨cc, ff⟩ := gb_rules hB))
      | (refine (hg2 _ (by first | exact gb_drew hg1 | exact gb_trans hg1 (by assumption))).mono ?_; rintro e w2 ⟨rfl, hg⟩; (have hB := gb_trans (a := wc) (by first | exact gb_drew (gb_refl _ _) | assumption) hg); (have hz := hB.size); (obtain ⟨cc, ff⟩ := gb_rules hB)))
    all_goals (go_wp2_with fail; go_meet; exact cp_step HG.out hB hbr HC.out n1 n2 nr HZ.out HO.out.1 HO.out.2)
  case rest =>
  obtain ⟨hg2', hz2, ⟨c0'', c1'', c2'', c3'', p0', p1', q0', q1', fr', fp', fq'⟩, o0', o1'⟩ := hcut
  clear hg1 hz1 c0' c1' c2' c3' p0 p1 q0 q1 fr fp fq o0 o1 lr lp lq
  unfold sm at *
  have r1 : IntKind.i64.wrap (b0 - x0) = b0 - x0 := IntWalk.i64_in _ (by omega)
  have r2 : IntKind.i64.wrap (b1 - y0) = b1 - y0 := IntWalk.i64_in _ (by omega)
  go_wp2
  go_quiet (fail)
  go_wp2
  go_quiet (fail)
  clear r1 r2
  have lr : br < wc.heap.size := World.block_lt_of_cell? wc _ c0''
  by_cases g1 : b0 - x0 = 0
  · by_cases g2 : b1 - y0 = 0
    · go_wp2
      refine bodyPost_ret (v := .tuple #[]) (by simp [results, Tryz.results48]) rfl ⟨rfl, gb_drewN hg2' _, ?_⟩
      unfold Cp; rw [g1, g2]; simp only [Int.add_zero]
      exact ⟨c0'', c1'', c2'', c3'', p0', p1', q0', q1', fr', fp', fq'⟩
    · go_wp2
      refine bodyPost_end (v := .tuple #[]) (by simp [results, Tryz.results48]) rfl ⟨rfl, ?_, ?_⟩
      · (repeat (first | exact hg2' | refine gb_drewN ?_ _ | (refine gb_setCell ?_ (.inr (by assumption)) _)))
      exact ⟨by go_simp, by go_simp, by go_simp, by go_simp, by go_simp, by go_simp, by go_simp, by go_simp, by go_simp, by go_simp, by go_simp⟩
  · go_wp2
    refine bodyPost_end (v := .tuple #[]) (by simp [results, Tryz.results48]) rfl ⟨rfl, ?_, ?_⟩
    · (repeat (first | exact hg2' | refine gb_drewN ?_ _ | (refine gb_setCell ?_ (.inr (by assumption)) _)))
    exact ⟨by go_simp, by go_simp, by go_simp, by go_simp, by go_simp, by go_simp, by go_simp, by go_simp, by go_simp, by go_simp, by go_simp⟩
end Go.Proofs.YtgjpohmjkhgpfaaGreat
