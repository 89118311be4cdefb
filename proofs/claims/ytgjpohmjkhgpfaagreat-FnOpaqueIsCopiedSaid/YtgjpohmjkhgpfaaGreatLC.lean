/- The reference's Clip, without a mask. The numbers are small. -/
import Derived.Test.YtgjpohmjkhgpfaaGreatLB
import Derived.Deep.RegionHeld3
import Derived.Deep.RegionWith
import Derived.Deep.DeepCutAuto
import Derived.Deep.CutBlock
import Derived.IntWalk
set_option linter.unusedSimpArgs false
set_option linter.unusedVariables false
namespace Go.Proofs.YtgjpohmjkhgpfaaGreat
open Go.RowKit

theorem base_kept {w w' : World} {bd br bs : Nat} {x0 y0 x1 y1 d0 d1 d2 d3 s0 s1 s2 s3 : Int} (h : w.cell? ⟨bd, 0, none⟩ = some (.int .i64 d0) ∧ w.cell? ⟨bd, 1, none⟩ = some (.int .i64 d1) ∧ w.cell? ⟨bd, 2, none⟩ = some (.int .i64 d2) ∧ w.cell? ⟨bd, 3, none⟩ = some (.int .i64 d3) ∧ w.cell? ⟨br, 0, none⟩ = some (.int .i64 x0) ∧ w.cell? ⟨br, 1, none⟩ = some (.int .i64 y0) ∧ w.cell? ⟨br, 2, none⟩ = some (.int .i64 x1) ∧ w.cell? ⟨br, 3, none⟩ = some (.int .i64 y1) ∧ w.cell? ⟨bs, 0, none⟩ = some (.int .i64 s0) ∧ w.cell? ⟨bs, 1, none⟩ = some (.int .i64 s1) ∧ w.cell? ⟨bs, 2, none⟩ = some (.int .i64 s2) ∧ w.cell? ⟨bs, 3, none⟩ = some (.int .i64 s3)) (hg : w.grownBy w' none) : w'.cell? ⟨bd, 0, none⟩ = some (.int .i64 d0) ∧ w'.cell? ⟨bd, 1, none⟩ = some (.int .i64 d1) ∧ w'.cell? ⟨bd, 2, none⟩ = some (.int .i64 d2) ∧ w'.cell? ⟨bd, 3, none⟩ = some (.int .i64 d3) ∧ w'.cell? ⟨br, 0, none⟩ = some (.int .i64 x0) ∧ w'.cell? ⟨br, 1, none⟩ = some (.int .i64 y0) ∧ w'.cell? ⟨br, 2, none⟩ = some (.int .i64 x1) ∧ w'.cell? ⟨br, 3, none⟩ = some (.int .i64 y1) ∧ w'.cell? ⟨bs, 0, none⟩ = some (.int .i64 s0) ∧ w'.cell? ⟨bs, 1, none⟩ = some (.int .i64 s1) ∧ w'.cell? ⟨bs, 2, none⟩ = some (.int .i64 s2) ∧ w'.cell? ⟨bs, 3, none⟩ = some (.int .i64 s3) := by
  obtain ⟨c0, c1, c2, c3, c4, c5, c6, c7, c8, c9, c10, c11⟩ := h
  have k := fun {b i : Nat} {v : Value} (hc : w.cell? ⟨b, i, none⟩ = some v) => (gb_cell0 hg (p := ⟨b, i, none⟩) (World.block_lt_of_cell? w _ hc)).trans hc
  exact ⟨k c0, k c1, k c2, k c3, k c4, k c5, k c6, k c7, k c8, k c9, k c10, k c11⟩

theorem fin_step {w wc : World} {g4 g5 g6 : Nat} {b0 b1 b2 b3 t0 t1 t2 t3 : Int} (hG : w.grownBy wc none) (d45 : g4 ≠ g5) (d46 : g4 ≠ g6) (d56 : g5 ≠ g6) (l4 : w.heap.size ≤ g4) (l5 : w.heap.size ≤ g5) (l6 : w.heap.size ≤ g6)
    (hz : wc.cell? ⟨g4, 0, none⟩ = some (.int .i64 0) ∧ wc.cell? ⟨g4, 1, none⟩ = some (.int .i64 0) ∧ wc.cell? ⟨g4, 2, none⟩ = some (.int .i64 0) ∧ wc.cell? ⟨g4, 3, none⟩ = some (.int .i64 0) ∧ wc.cell? ⟨g5, 0, none⟩ = some (.int .i64 0) ∧ wc.cell? ⟨g5, 1, none⟩ = some (.int .i64 0) ∧ wc.cell? ⟨g6, 0, none⟩ = some (.int .i64 0) ∧ wc.cell? ⟨g6, 1, none⟩ = some (.int .i64 0)) :
    ((((((((wc.setCell ⟨g4, 0, none⟩ (.int .i64 b0)).setCell ⟨g4, 1, none⟩ (.int .i64 b1)).setCell ⟨g4, 2, none⟩ (.int .i64 b2)).setCell ⟨g4, 3, none⟩ (.int .i64 b3)).setCell ⟨g5, 0, none⟩ (.int .i64 t0)).setCell ⟨g5, 1, none⟩ (.int .i64 t1)).setCell ⟨g6, 0, none⟩ (.int .i64 t2)).setCell ⟨g6, 1, none⟩ (.int .i64 t3)).drew.cell? ⟨g4, 0, none⟩ = some (.int .i64 b0) ∧ ((((((((wc.setCell ⟨g4, 0, none⟩ (.int .i64 b0)).setCell ⟨g4, 1, none⟩ (.int .i64 b1)).setCell ⟨g4, 2, none⟩ (.int .i64 b2)).setCell ⟨g4, 3, none⟩ (.int .i64 b3)).setCell ⟨g5, 0, none⟩ (.int .i64 t0)).setCell ⟨g5, 1, none⟩ (.int .i64 t1)).setCell ⟨g6, 0, none⟩ (.int .i64 t2)).setCell ⟨g6, 1, none⟩ (.int .i64 t3)).drew.cell? ⟨g4, 1, none⟩ = some (.int .i64 b1) ∧ ((((((((wc.setCell ⟨g4, 0, none⟩ (.int .i64 b0)).setCell ⟨g4, 1, none⟩ (.int .i64 b1)).setCell ⟨g4, 2, none⟩ (.int .i64 b2)).setCell ⟨g4, 3, none⟩ (.int .i64 b3)).setCell ⟨g5, 0, none⟩ (.int .i64 t0)).setCell ⟨g5, 1, none⟩ (.int .i64 t1)).setCell ⟨g6, 0, none⟩ (.int .i64 t2)).setCell ⟨g6, 1, none⟩ (.int .i64 t3)).drew.cell? ⟨g4, 2, none⟩ = some (.int .i64 b2) ∧ ((((((((wc.setCell ⟨g4, 0, none⟩ (.int .i64 b0)).setCell ⟨g4, 1, none⟩ (.int .i64 b1)).setCell ⟨g4, 2, none⟩ (.int .i64 b2)).setCell ⟨g4, 3, none⟩ (.int .i64 b3)).setCell ⟨g5, 0, none⟩ (.int .i64 t0)).setCell ⟨g5, 1, none⟩ (.int .i64 t1)).setCell ⟨g6, 0, none⟩ (.int .i64 t2)).setCell ⟨g6, 1, none⟩ (.int .i64 t3)).drew.cell? ⟨g4, 3, none⟩ = some (.int .i64 b3) ∧ ((((((((wc.setCell ⟨g4, 0, none⟩ (.int .i64 b0)).setCell ⟨g4, 1, none⟩ (.int .i64 b1)).setCell ⟨g4, 2, none⟩ (.int .i64 b2)).setCell ⟨g4, 3, none⟩ (.int .i64 b3)).setCell ⟨g5, 0, none⟩ (.int .i64 t0)).setCell ⟨g5, 1, none⟩ (.int .i64 t1)).setCell ⟨g6, 0, none⟩ (.int .i64 t2)).setCell ⟨g6, 1, none⟩ (.int .i64 t3)).drew.cell? ⟨g5, 0, none⟩ = some (.int .i64 t0) ∧ ((((((((wc.setCell ⟨g4, 0, none⟩ (.int .i64 b0)).setCell ⟨g4, 1, none⟩ (.int .i64 b1)).setCell ⟨g4, 2, none⟩ (.int .i64 b2)).setCell ⟨g4, 3, none⟩ (.int .i64 b3)).setCell ⟨g5, 0, none⟩ (.int .i64 t0)).setCell ⟨g5, 1, none⟩ (.int .i64 t1)).setCell ⟨g6, 0, none⟩ (.int .i64 t2)).setCell ⟨g6, 1, none⟩ (.int .i64 t3)).drew.cell? ⟨g5, 1, none⟩ = some (.int .i64 t1) ∧ ((((((((wc.setCell ⟨g4, 0, none⟩ (.int .i64 b0)).setCell ⟨g4, 1, none⟩ (.int .i64 b1)).setCell ⟨g4, 2, none⟩ (.int .i64 b2)).setCell ⟨g4, 3, none⟩ (.int .i64 b3)).setCell ⟨g5, 0, none⟩ (.int .i64 t0)).setCell ⟨g5, 1, none⟩ (.int .i64 t1)).setCell ⟨g6, 0, none⟩ (.int .i64 t2)).setCell ⟨g6, 1, none⟩ (.int .i64 t3)).drew.cell? ⟨g6, 0, none⟩ = some (.int .i64 t2) ∧ ((((((((wc.setCell ⟨g4, 0, none⟩ (.int .i64 b0)).setCell ⟨g4, 1, none⟩ (.int .i64 b1)).setCell ⟨g4, 2, none⟩ (.int .i64 b2)).setCell ⟨g4, 3, none⟩ (.int .i64 b3)).setCell ⟨g5, 0, none⟩ (.int .i64 t0)).setCell ⟨g5, 1, none⟩ (.int .i64 t1)).setCell ⟨g6, 0, none⟩ (.int .i64 t2)).setCell ⟨g6, 1, none⟩ (.int .i64 t3)).drew.cell? ⟨g6, 1, none⟩ = some (.int .i64 t3) ∧ w.grownBy ((((((((wc.setCell ⟨g4, 0, none⟩ (.int .i64 b0)).setCell ⟨g4, 1, none⟩ (.int .i64 b1)).setCell ⟨g4, 2, none⟩ (.int .i64 b2)).setCell ⟨g4, 3, none⟩ (.int .i64 b3)).setCell ⟨g5, 0, none⟩ (.int .i64 t0)).setCell ⟨g5, 1, none⟩ (.int .i64 t1)).setCell ⟨g6, 0, none⟩ (.int .i64 t2)).setCell ⟨g6, 1, none⟩ (.int .i64 t3)).drew none := by
  obtain ⟨e0, e1, e2, e3, e4, e5, e6, e7⟩ := hz
  refine ⟨by go_simp, by go_simp, by go_simp, by go_simp, by go_simp, by go_simp, by go_simp, by go_simp, ?_⟩
  exact gb_drew (gb_setCell (gb_setCell (gb_setCell (gb_setCell (gb_setCell (gb_setCell (gb_setCell (gb_setCell hG (.inr l4) _) (.inr l4) _) (.inr l4) _) (.inr l4) _) (.inr l5) _) (.inr l5) _) (.inr l6) _) (.inr l6) _)

set_option maxRecDepth 100000 in
set_option maxHeartbeats 8000000 in
theorem sclip0_c {x0 y0 x1 y1 px py qx qy d0 d1 d2 d3 s0 s1 s2 s3 b0 b1 b2 b3 p0 p1 q0 q1 m0 m1 m2 m3 : Int} (w : World)
    (hC : Cl0 x0 y0 x1 y1 px py qx qy d0 d1 d2 d3 s0 s1 s2 s3 b0 b1 b2 b3 p0 p1 q0 q1) :
    Calls Tryz.prog 18 #[vR d0 d1 d2 d3, vR x0 y0 x1 y1, vR s0 s1 s2 s3, .int .i64 px, .int .i64 py, vR m0 m1 m2 m3, .bool false, .int .i64 qx, .int .i64 qy] w fun e w' =>
      e = .returned (.tuple #[vR b0 b1 b2 b3, vP p0 p1, vP q0 q1]) ∧ w.grownBy w' none := by
  obtain ⟨⟨h1, h2, h3, h4, h5, h6, h7, h8, h9, h10, h11, h12, h13, h14⟩, hb, hp⟩ := hC
  obtain ⟨a0, ha0⟩ : ∃ a0, ia 0 x0 y0 x1 y1 d0 d1 d2 d3 = a0 := ⟨_, rfl⟩
  obtain ⟨a1, ha1⟩ : ∃ a1, ia 1 x0 y0 x1 y1 d0 d1 d2 d3 = a1 := ⟨_, rfl⟩
  obtain ⟨a2, ha2⟩ : ∃ a2, ia 2 x0 y0 x1 y1 d0 d1 d2 d3 = a2 := ⟨_, rfl⟩
  obtain ⟨a3, ha3⟩ : ∃ a3, ia 3 x0 y0 x1 y1 d0 d1 d2 d3 = a3 := ⟨_, rfl⟩
  rw [ha0, ha1, ha2, ha3] at hb
  have Ha := hid (And.intro ha0 (And.intro ha1 (And.intro ha2 ha3)))
  have Hb := hid hb
  have Hp := hid hp
  have Hs := hid (And.intro h7 (And.intro h8 (And.intro h9 (And.intro h10 (And.intro h11 h12)))))
  clear ha0 ha1 ha2 ha3 hb hp
  unfold sm at h1 h2 h3 h4 h5 h6 h11 h12 h13 h14
  have r1 : IntKind.i64.wrap (x0 - px) = x0 - px := IntWalk.i64_in _ (by omega)
  have r2 : IntKind.i64.wrap (y0 - py) = y0 - py := IntWalk.i64_in _ (by omega)
  clear h7 h8 h9 h10
  go_enter Tryz.func18, Tryz.ntmps18
  go_upto_region 0 with fail
  go_cut [9, 10, 11, 18, 19, 20] (fun u9 u10 u11 u18 u19 u20 wx => ∃ bd br bs g4 g5 g6 : Nat, (u9 = .pointer (some ⟨bd, 0, none⟩) ∧ u10 = .pointer (some ⟨br, 0, none⟩) ∧ u11 = .pointer (some ⟨bs, 0, none⟩) ∧ u18 = .pointer (some ⟨g4, 0, none⟩) ∧ u19 = .pointer (some ⟨g5, 0, none⟩) ∧ u20 = .pointer (some ⟨g6, 0, none⟩)) ∧ (wx.cell? ⟨bd, 0, none⟩ = some (.int .i64 d0) ∧ wx.cell? ⟨bd, 1, none⟩ = some (.int .i64 d1) ∧ wx.cell? ⟨bd, 2, none⟩ = some (.int .i64 d2) ∧ wx.cell? ⟨bd, 3, none⟩ = some (.int .i64 d3) ∧ wx.cell? ⟨br, 0, none⟩ = some (.int .i64 x0) ∧ wx.cell? ⟨br, 1, none⟩ = some (.int .i64 y0) ∧ wx.cell? ⟨br, 2, none⟩ = some (.int .i64 x1) ∧ wx.cell? ⟨br, 3, none⟩ = some (.int .i64 y1) ∧ wx.cell? ⟨bs, 0, none⟩ = some (.int .i64 s0) ∧ wx.cell? ⟨bs, 1, none⟩ = some (.int .i64 s1) ∧ wx.cell? ⟨bs, 2, none⟩ = some (.int .i64 s2) ∧ wx.cell? ⟨bs, 3, none⟩ = some (.int .i64 s3)) ∧ (wx.cell? ⟨g4, 0, none⟩ = some (.int .i64 0) ∧ wx.cell? ⟨g4, 1, none⟩ = some (.int .i64 0) ∧ wx.cell? ⟨g4, 2, none⟩ = some (.int .i64 0) ∧ wx.cell? ⟨g4, 3, none⟩ = some (.int .i64 0) ∧ wx.cell? ⟨g5, 0, none⟩ = some (.int .i64 0) ∧ wx.cell? ⟨g5, 1, none⟩ = some (.int .i64 0) ∧ wx.cell? ⟨g6, 0, none⟩ = some (.int .i64 0) ∧ wx.cell? ⟨g6, 1, none⟩ = some (.int .i64 0) ∧ (∀ k, wx.frozen? ⟨g4, k, none⟩ = false) ∧ (∀ k, wx.frozen? ⟨g5, k, none⟩ = false) ∧ (∀ k, wx.frozen? ⟨g6, k, none⟩ = false)) ∧ w.grownBy wx none ∧ (g4 ≠ g5 ∧ g4 ≠ g6 ∧ g5 ≠ g6 ∧ br ≠ g4 ∧ br ≠ g5 ∧ br ≠ g6) ∧ w.heap.size ≤ g4 ∧ w.heap.size ≤ g5 ∧ w.heap.size ≤ g6)
  case first =>
    go_wp2_with fail
    go_meet
    exact ⟨_, _, _, _, _, _, ⟨rfl, rfl, rfl, rfl, rfl, rfl⟩, ⟨by go_simp, by go_simp, by go_simp, by go_simp, by go_simp, by go_simp, by go_simp, by go_simp, by go_simp, by go_simp, by go_simp, by go_simp⟩, ⟨by go_simp, by go_simp, by go_simp, by go_simp, by go_simp, by go_simp, by go_simp, by go_simp, fun k => by go_simp, fun k => by go_simp, fun k => by go_simp⟩, by (repeat (first | exact gb_refl _ _ | refine gb_alloc ?_ _)), ⟨by omega, by omega, by omega, by omega, by omega, by omega⟩, by omega, by omega, by omega⟩
  case rest =>
  obtain ⟨bd, br, bs, g4, g5, g6, ⟨rfl, rfl, rfl, rfl, rfl, rfl⟩, hbase, hzero, hgw, ⟨d45, d46, d56, dr4, dr5, dr6⟩, l4, l5, l6⟩ := hcut
  obtain ⟨wx, rfl⟩ : ∃ wx : World, wx = wc := ⟨_, rfl⟩
  have HB := hid hbase
  have HZ := hid hzero
  have HG := hid hgw
  obtain ⟨c0, c1, c2, c3, c4, c5, c6, c7, c8, c9, c10, c11⟩ := hbase
  clear hzero hgw
  have z0 : g6 < wx.heap.size := World.block_lt_of_cell? wx _ HZ.out.2.2.2.2.2.2.1
  have z04 : g4 < wx.heap.size := World.block_lt_of_cell? wx _ HZ.out.1
  have z05 : g5 < wx.heap.size := World.block_lt_of_cell? wx _ HZ.out.2.2.2.2.1
  have z1 : bd < wx.heap.size := World.block_lt_of_cell? wx _ c0
  have z2 : br < wx.heap.size := World.block_lt_of_cell? wx _ c4
  have z3 : bs < wx.heap.size := World.block_lt_of_cell? wx _ c8
  go_upto_region 1 with fail
  go_cut [21] (fun v wy => ∃ g, v = .pointer (some ⟨g, 0, none⟩) ∧ wx.heap.size ≤ g ∧ wy.cell? ⟨g, 0, none⟩ = some (.int .i64 b0) ∧ wy.cell? ⟨g, 1, none⟩ = some (.int .i64 b1) ∧ wy.cell? ⟨g, 2, none⟩ = some (.int .i64 b2) ∧ wy.cell? ⟨g, 3, none⟩ = some (.int .i64 b3) ∧ wx.grownBy wy none)
  case first =>
    obtain ⟨ha0, ha1, ha2, ha3⟩ := Ha.out
    obtain ⟨hb0, hb1, hb2, hb3⟩ := Hb.out
    have HAB := hid (And.intro (And.intro ha0 (And.intro ha1 (And.intro ha2 ha3))) (And.intro hb0 (And.intro hb1 (And.intro hb2 hb3))))
    clear ha0 ha1 ha2 ha3 hb0 hb1 hb2 hb3
    go_wp2_with fail
    go_region_held3 (fun W => W.cell? ⟨bd, 0, none⟩ = some (.int .i64 d0) ∧ W.cell? ⟨bd, 1, none⟩ = some (.int .i64 d1) ∧ W.cell? ⟨bd, 2, none⟩ = some (.int .i64 d2) ∧ W.cell? ⟨bd, 3, none⟩ = some (.int .i64 d3) ∧ W.cell? ⟨br, 0, none⟩ = some (.int .i64 x0) ∧ W.cell? ⟨br, 1, none⟩ = some (.int .i64 y0) ∧ W.cell? ⟨br, 2, none⟩ = some (.int .i64 x1) ∧ W.cell? ⟨br, 3, none⟩ = some (.int .i64 y1) ∧ W.cell? ⟨bs, 0, none⟩ = some (.int .i64 s0) ∧ W.cell? ⟨bs, 1, none⟩ = some (.int .i64 s1) ∧ W.cell? ⟨bs, 2, none⟩ = some (.int .i64 s2) ∧ W.cell? ⟨bs, 3, none⟩ = some (.int .i64 s3)) (first | (go_simp; done) | assumption)
      (first
      | (go_at_call_of 26 (Value.int IntKind.i64 d2); refine (scommon_c x0 y0 x1 y1 d0 d1 d2 d3 _).mono ?_; rintro e w2 ⟨rfl, hg⟩; rw [isec_ia, HAB.out.1.1, HAB.out.1.2.1, HAB.out.1.2.2.1, HAB.out.1.2.2.2]
         have hs2 := base_kept (by assumption) hg
         have hB2 := gb_trans (a := wx) (by (repeat (first | exact gb_refl _ _ | refine gb_drew ?_ | refine gb_alloc ?_ _))) hg
         have y2 := hB2.size
         obtain ⟨cc2, ff2⟩ := gb_rules hg
         have v2 := hg.size
         (try simp at v2)
         (try have v2a : wx.heap.size < w2.heap.size := by omega)
         have y2a : bd < w2.heap.size := by omega
         have y2b : br < w2.heap.size := by omega
         have y2c : bs < w2.heap.size := by omega
         clear hg)
      | (go_at_call 31; refine (smoved_c s0 s1 s2 s3 (x0 - px) (y0 - py) _ Hs.out.1 Hs.out.2.1 Hs.out.2.2.1 Hs.out.2.2.2.1 Hs.out.2.2.2.2.1 Hs.out.2.2.2.2.2).mono ?_; rintro e w3 ⟨rfl, hg⟩
         have hs3 := base_kept (by assumption) hg
         have hB3 := gb_trans (a := wx) (by (repeat (first | exact hB2 | refine gb_drew ?_ | refine gb_alloc ?_ _))) hg
         have y3 := hB3.size
         have v3 := hg.size
         (try simp at v3)
         (try have v3a : wx.heap.size < w3.heap.size := by omega)
         (try have v3b : w2.heap.size < w3.heap.size := by omega)
         have y3a : bd < w3.heap.size := by omega
         have y3b : br < w3.heap.size := by omega
         have y3c : bs < w3.heap.size := by omega
         obtain ⟨cc3, ff3⟩ := gb_rules hg
         clear hg)
      | (go_at_call 26; refine (scommon_c a0 a1 a2 a3 (s0 + (x0 - px)) (s1 + (y0 - py)) (s2 + (x0 - px)) (s3 + (y0 - py)) _).mono ?_; rintro e w4 ⟨rfl, hg⟩; rw [isec_ia, HAB.out.2.1, HAB.out.2.2.1, HAB.out.2.2.2.1, HAB.out.2.2.2.2]
         have hs4 := base_kept (by assumption) hg
         have hB4 := gb_trans (a := wx) (by (repeat (first | exact hB3 | refine gb_drew ?_ | refine gb_alloc ?_ _))) hg
         have y4 := hB4.size
         have v4 := hg.size
         (try simp at v4)
         (try have v4a : wx.heap.size < w4.heap.size := by omega)
         (try have v4b : w2.heap.size < w4.heap.size := by omega)
         (try have v4c : w3.heap.size < w4.heap.size := by omega)
         have y4a : bd < w4.heap.size := by omega
         have y4b : br < w4.heap.size := by omega
         have y4c : bs < w4.heap.size := by omega
         obtain ⟨cc4, ff4⟩ := gb_rules hg
         clear hg))
    all_goals (go_wp2_with fail; go_meet; refine ⟨_, rfl, by omega, by go_simp, by go_simp, by go_simp, by go_simp, ?_⟩; (repeat (first | exact hB4 | exact gb_refl _ _ | refine gb_drew ?_ | refine gb_alloc ?_ _ | refine gb_setCell ?_ (.inr (by dsimp only; omega)) _)))
  case rest =>
  obtain ⟨g, rfl, hg, k0, k1, k2, k3, hgw⟩ := hcut
  have n4 : g ≠ g4 := by omega
  have n5 : g ≠ g5 := by omega
  have n6 : g ≠ g6 := by omega
  have z4 := z04
  have z5 := z05
  have x0' := (gb_cell0 hgw (p := ⟨br, 0, none⟩) (by dsimp only; omega)).trans c4
  have x1' := (gb_cell0 hgw (p := ⟨br, 1, none⟩) (by dsimp only; omega)).trans c5
  obtain ⟨e0, e1, e2, e3, e4, e5, e6, e7, F4, F5, F6⟩ := HZ.out
  have e0' := (gb_cell0 hgw (p := ⟨g4, 0, none⟩) (by dsimp only; omega)).trans e0
  have e1' := (gb_cell0 hgw (p := ⟨g4, 1, none⟩) (by dsimp only; omega)).trans e1
  have e2' := (gb_cell0 hgw (p := ⟨g4, 2, none⟩) (by dsimp only; omega)).trans e2
  have e3' := (gb_cell0 hgw (p := ⟨g4, 3, none⟩) (by dsimp only; omega)).trans e3
  have e4' := (gb_cell0 hgw (p := ⟨g5, 0, none⟩) (by dsimp only; omega)).trans e4
  have e5' := (gb_cell0 hgw (p := ⟨g5, 1, none⟩) (by dsimp only; omega)).trans e5
  have e6' := (gb_cell0 hgw (p := ⟨g6, 0, none⟩) (by dsimp only; omega)).trans e6
  have e7' := (gb_cell0 hgw (p := ⟨g6, 1, none⟩) (by dsimp only; omega)).trans e7
  have HE := hid (And.intro e0' (And.intro e1' (And.intro e2' (And.intro e3' (And.intro e4' (And.intro e5' (And.intro e6' e7')))))))
  have F4' : ∀ k, wc.frozen? ⟨g4, k, none⟩ = false := fun k => (gb_free0 hgw (p := ⟨g4, k, none⟩) z4).trans (F4 k)
  have F5' : ∀ k, wc.frozen? ⟨g5, k, none⟩ = false := fun k => (gb_free0 hgw (p := ⟨g5, k, none⟩) z5).trans (F5 k)
  have F6' : ∀ k, wc.frozen? ⟨g6, k, none⟩ = false := fun k => (gb_free0 hgw (p := ⟨g6, k, none⟩) z0).trans (F6 k)
  have HGW := hid (gb_trans HG.out hgw)
  have HQ := hid z0
  clear hgw c0 c1 c2 c3 c4 c5 c6 c7 c8 c9 c10 c11 e0 e1 e2 e3 e4 e5 e6 e7 F4 F5 F6 hg z0 z4 z5 r1 r2
  obtain ⟨f1, f2, f3, f4⟩ := Hp.out
  have w1 : IntKind.i64.wrap (px + b0) = px + b0 := IntWalk.i64_in _ (by omega)
  have w2 : IntKind.i64.wrap (px + b0 - x0) = px + b0 - x0 := IntWalk.i64_in _ (by omega)
  have w3 : IntKind.i64.wrap (py + b1) = py + b1 := IntWalk.i64_in _ (by omega)
  have w4 : IntKind.i64.wrap (py + b1 - y0) = py + b1 - y0 := IntWalk.i64_in _ (by omega)
  have w5 : IntKind.i64.wrap (qx + b0) = qx + b0 := IntWalk.i64_in _ (by omega)
  have w6 : IntKind.i64.wrap (qx + b0 - x0) = qx + b0 - x0 := IntWalk.i64_in _ (by omega)
  have w7 : IntKind.i64.wrap (qy + b1) = qy + b1 := IntWalk.i64_in _ (by omega)
  have w8 : IntKind.i64.wrap (qy + b1 - y0) = qy + b1 - y0 := IntWalk.i64_in _ (by omega)
  clear f1 f2 f3 f4
  go_upto_region 4 with fail
  go_cut [18, 19, 20] (fun t18 t19 t20 wz => t18 = .pointer (some ⟨g4, 0, none⟩) ∧ t19 = .pointer (some ⟨g5, 0, none⟩) ∧ t20 = .pointer (some ⟨g6, 0, none⟩) ∧ wz.cell? ⟨g4, 0, none⟩ = some (.int .i64 b0) ∧ wz.cell? ⟨g4, 1, none⟩ = some (.int .i64 b1) ∧ wz.cell? ⟨g4, 2, none⟩ = some (.int .i64 b2) ∧ wz.cell? ⟨g4, 3, none⟩ = some (.int .i64 b3) ∧ wz.cell? ⟨g5, 0, none⟩ = some (.int .i64 (px + b0 - x0)) ∧ wz.cell? ⟨g5, 1, none⟩ = some (.int .i64 (py + b1 - y0)) ∧ wz.cell? ⟨g6, 0, none⟩ = some (.int .i64 (qx + b0 - x0)) ∧ wz.cell? ⟨g6, 1, none⟩ = some (.int .i64 (qy + b1 - y0)) ∧ w.grownBy wz none)
  case first =>
    go_wp2_with fail
    go_region_held3 (fun W => W.cell? ⟨g, 0, none⟩ = some (.int .i64 b0) ∧ W.cell? ⟨g, 1, none⟩ = some (.int .i64 b1) ∧ W.cell? ⟨g, 2, none⟩ = some (.int .i64 b2) ∧ W.cell? ⟨g, 3, none⟩ = some (.int .i64 b3) ∧ W.cell? ⟨br, 0, none⟩ = some (.int .i64 x0) ∧ W.cell? ⟨br, 1, none⟩ = some (.int .i64 y0)) (go_simp) (fail)
    all_goals (go_wp2_with fail; go_meet; exact ⟨rfl, rfl, rfl, fin_step HGW.out d45 d46 d56 l4 l5 l6 HE.out⟩)
  case rest =>
  obtain ⟨rfl, rfl, rfl, r0, r1, r2, r3, r4, r5, r6, r7, hgz⟩ := hcut
  have HGZ := hid hgz
  clear hgz w1 w2 w3 w4 w5 w6 w7 w8 k0 k1 k2 k3 x0' x1' e0' e1' e2' e3' e4' e5' e6' e7' F4' F5' F6'
  go_wp2_with fail
  obtain ⟨f1, f2, f3, f4⟩ := Hp.out
  refine bodyPost_ret (v := .tuple #[vR b0 b1 b2 b3, vP (px + b0 - x0) (py + b1 - y0), vP (qx + b0 - x0) (qy + b1 - y0)]) (by simp [results, Tryz.results18, go_sem, r0, r1, r2, r3, r4, r5, r6, r7]) rfl ⟨?_, HGZ.out⟩
  rw [show px + b0 - x0 = p0 by omega, show py + b1 - y0 = p1 by omega, show qx + b0 - x0 = q0 by omega, show qy + b1 - y0 = q1 by omega]
end Go.Proofs.YtgjpohmjkhgpfaaGreat
