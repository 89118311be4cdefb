/- The reference's Clip, through a mask. The numbers are small. -/
import Derived.Test.YtgjpohmjkhgpfaaGreatHb
import Derived.Test.YtgjpohmjkhgpfaaGreatD17
import Derived.Test.YtgjpohmjkhgpfaaGreatD03
import Derived.Test.YtgjpohmjkhgpfaaGreatD14
set_option linter.unusedSimpArgs false
set_option linter.unusedVariables false
namespace Go.Proofs.YtgjpohmjkhgpfaaGreat
open Go.RowKit

theorem cells10 {w w' : World} {br bm g : Nat} {x0 y0 m0 m1 m2 m3 i0 i1 i2 i3 : Int} (h : w.cell? ⟨br, 0, none⟩ = some (.int .i64 x0) ∧ w.cell? ⟨br, 1, none⟩ = some (.int .i64 y0) ∧ w.cell? ⟨bm, 0, none⟩ = some (.int .i64 m0) ∧ w.cell? ⟨bm, 1, none⟩ = some (.int .i64 m1) ∧ w.cell? ⟨bm, 2, none⟩ = some (.int .i64 m2) ∧ w.cell? ⟨bm, 3, none⟩ = some (.int .i64 m3) ∧ w.cell? ⟨g, 0, none⟩ = some (.int .i64 i0) ∧ w.cell? ⟨g, 1, none⟩ = some (.int .i64 i1) ∧ w.cell? ⟨g, 2, none⟩ = some (.int .i64 i2) ∧ w.cell? ⟨g, 3, none⟩ = some (.int .i64 i3)) (hg : w.grownBy w' none) : w'.cell? ⟨br, 0, none⟩ = some (.int .i64 x0) ∧ w'.cell? ⟨br, 1, none⟩ = some (.int .i64 y0) ∧ w'.cell? ⟨bm, 0, none⟩ = some (.int .i64 m0) ∧ w'.cell? ⟨bm, 1, none⟩ = some (.int .i64 m1) ∧ w'.cell? ⟨bm, 2, none⟩ = some (.int .i64 m2) ∧ w'.cell? ⟨bm, 3, none⟩ = some (.int .i64 m3) ∧ w'.cell? ⟨g, 0, none⟩ = some (.int .i64 i0) ∧ w'.cell? ⟨g, 1, none⟩ = some (.int .i64 i1) ∧ w'.cell? ⟨g, 2, none⟩ = some (.int .i64 i2) ∧ w'.cell? ⟨g, 3, none⟩ = some (.int .i64 i3) := by
  obtain ⟨a0, a1, a2, a3, a4, a5, a6, a7, a8, a9⟩ := h
  have k := fun {b i : Nat} {v : Value} (hc : w.cell? ⟨b, i, none⟩ = some v) => (gb_cell0 hg (p := ⟨b, i, none⟩) (World.block_lt_of_cell? w _ hc)).trans hc
  exact ⟨k a0, k a1, k a2, k a3, k a4, k a5, k a6, k a7, k a8, k a9⟩

set_option maxRecDepth 100000 in
set_option maxHeartbeats 8000000 in
theorem sclip1_c {x0 y0 x1 y1 px py qx qy d0 d1 d2 d3 s0 s1 s2 s3 b0 b1 b2 b3 p0 p1 q0 q1 m0 m1 m2 m3 : Int} (w : World)
    (hC : Cl1 x0 y0 x1 y1 px py qx qy d0 d1 d2 d3 s0 s1 s2 s3 m0 m1 m2 m3 b0 b1 b2 b3 p0 p1 q0 q1) :
    Calls Tryz.prog 18 #[vR d0 d1 d2 d3, vR x0 y0 x1 y1, vR s0 s1 s2 s3, .int .i64 px, .int .i64 py, vR m0 m1 m2 m3, .bool true, .int .i64 qx, .int .i64 qy] w fun e w' =>
      e = .returned (.tuple #[vR b0 b1 b2 b3, vP p0 p1, vP q0 q1]) ∧ w.grownBy w' none := by
  obtain ⟨⟨h1, h2, h3, h4, h5, h6, h7, h8, h9, h10, h11, h12, h13, h14⟩, hb, hp, h15, h16, h17, h18, h19, h20⟩ := hC
  obtain ⟨a0, ha0⟩ : ∃ a0, ia 0 x0 y0 x1 y1 d0 d1 d2 d3 = a0 := ⟨_, rfl⟩
  obtain ⟨a1, ha1⟩ : ∃ a1, ia 1 x0 y0 x1 y1 d0 d1 d2 d3 = a1 := ⟨_, rfl⟩
  obtain ⟨a2, ha2⟩ : ∃ a2, ia 2 x0 y0 x1 y1 d0 d1 d2 d3 = a2 := ⟨_, rfl⟩
  obtain ⟨a3, ha3⟩ : ∃ a3, ia 3 x0 y0 x1 y1 d0 d1 d2 d3 = a3 := ⟨_, rfl⟩
  unfold ic ib at hb
  rw [ha0, ha1, ha2, ha3] at hb
  obtain ⟨i0, hi0⟩ : ∃ z, ia 0 a0 a1 a2 a3 (s0 + (x0 - px)) (s1 + (y0 - py)) (s2 + (x0 - px)) (s3 + (y0 - py)) = z := ⟨_, rfl⟩
  obtain ⟨i1, hi1⟩ : ∃ z, ia 1 a0 a1 a2 a3 (s0 + (x0 - px)) (s1 + (y0 - py)) (s2 + (x0 - px)) (s3 + (y0 - py)) = z := ⟨_, rfl⟩
  obtain ⟨i2, hi2⟩ : ∃ z, ia 2 a0 a1 a2 a3 (s0 + (x0 - px)) (s1 + (y0 - py)) (s2 + (x0 - px)) (s3 + (y0 - py)) = z := ⟨_, rfl⟩
  obtain ⟨i3, hi3⟩ : ∃ z, ia 3 a0 a1 a2 a3 (s0 + (x0 - px)) (s1 + (y0 - py)) (s2 + (x0 - px)) (s3 + (y0 - py)) = z := ⟨_, rfl⟩
  rw [hi0, hi1, hi2, hi3] at hb
  have HI := hid (And.intro hi0 (And.intro hi1 (And.intro hi2 hi3)))
  have HM := hid (And.intro h15 (And.intro h16 (And.intro h17 (And.intro h18 (And.intro h19 h20)))))
  clear hi0 hi1 hi2 hi3
  have Ha := hid (And.intro ha0 (And.intro ha1 (And.intro ha2 ha3)))
  have Hb := hid hb
  have Hp := hid hp
  have Hs := hid (And.intro h7 (And.intro h8 (And.intro h9 (And.intro h10 (And.intro h11 h12)))))
  clear ha0 ha1 ha2 ha3 hb hp
  unfold sm at h1 h2 h3 h4 h5 h6 h11 h12 h13 h14 h19 h20
  have r1 : IntKind.i64.wrap (x0 - px) = x0 - px := IntWalk.i64_in _ (by omega)
  have r2 : IntKind.i64.wrap (y0 - py) = y0 - py := IntWalk.i64_in _ (by omega)
  have r3 : IntKind.i64.wrap (x0 - qx) = x0 - qx := IntWalk.i64_in _ (by omega)
  have r4 : IntKind.i64.wrap (y0 - qy) = y0 - qy := IntWalk.i64_in _ (by omega)
  clear h7 h8 h9 h10 h15 h16 h17 h18
  go_enter Tryz.func18, Tryz.ntmps18
  go_upto_region 0 with fail
  go_cut [9, 10, 11, 14, 18, 19, 20] (fun u9 u10 u11 u14 u18 u19 u20 wx => ∃ bd br bs bm g4 g5 g6 : Nat, u14 = .pointer (some ⟨bm, 0, none⟩) ∧ (wx.cell? ⟨bm, 0, none⟩ = some (.int .i64 m0) ∧ wx.cell? ⟨bm, 1, none⟩ = some (.int .i64 m1) ∧ wx.cell? ⟨bm, 2, none⟩ = some (.int .i64 m2) ∧ wx.cell? ⟨bm, 3, none⟩ = some (.int .i64 m3)) ∧ (u9 = .pointer (some ⟨bd, 0, none⟩) ∧ u10 = .pointer (some ⟨br, 0, none⟩) ∧ u11 = .pointer (some ⟨bs, 0, none⟩) ∧ u18 = .pointer (some ⟨g4, 0, none⟩) ∧ u19 = .pointer (some ⟨g5, 0, none⟩) ∧ u20 = .pointer (some ⟨g6, 0, none⟩)) ∧ (wx.cell? ⟨bd, 0, none⟩ = some (.int .i64 d0) ∧ wx.cell? ⟨bd, 1, none⟩ = some (.int .i64 d1) ∧ wx.cell? ⟨bd, 2, none⟩ = some (.int .i64 d2) ∧ wx.cell? ⟨bd, 3, none⟩ = some (.int .i64 d3) ∧ wx.cell? ⟨br, 0, none⟩ = some (.int .i64 x0) ∧ wx.cell? ⟨br, 1, none⟩ = some (.int .i64 y0) ∧ wx.cell? ⟨br, 2, none⟩ = some (.int .i64 x1) ∧ wx.cell? ⟨br, 3, none⟩ = some (.int .i64 y1) ∧ wx.cell? ⟨bs, 0, none⟩ = some (.int .i64 s0) ∧ wx.cell? ⟨bs, 1, none⟩ = some (.int .i64 s1) ∧ wx.cell? ⟨bs, 2, none⟩ = some (.int .i64 s2) ∧ wx.cell? ⟨bs, 3, none⟩ = some (.int .i64 s3)) ∧ (wx.cell? ⟨g4, 0, none⟩ = some (.int .i64 0) ∧ wx.cell? ⟨g4, 1, none⟩ = some (.int .i64 0) ∧ wx.cell? ⟨g4, 2, none⟩ = some (.int .i64 0) ∧ wx.cell? ⟨g4, 3, none⟩ = some (.int .i64 0) ∧ wx.cell? ⟨g5, 0, none⟩ = some (.int .i64 0) ∧ wx.cell? ⟨g5, 1, none⟩ = some (.int .i64 0) ∧ wx.cell? ⟨g6, 0, none⟩ = some (.int .i64 0) ∧ wx.cell? ⟨g6, 1, none⟩ = some (.int .i64 0) ∧ (∀ k, wx.frozen? ⟨g4, k, none⟩ = false) ∧ (∀ k, wx.frozen? ⟨g5, k, none⟩ = false) ∧ (∀ k, wx.frozen? ⟨g6, k, none⟩ = false)) ∧ w.grownBy wx none ∧ (g4 ≠ g5 ∧ g4 ≠ g6 ∧ g5 ≠ g6 ∧ br ≠ g4 ∧ br ≠ g5 ∧ br ≠ g6) ∧ w.heap.size ≤ g4 ∧ w.heap.size ≤ g5 ∧ w.heap.size ≤ g6)
  case first =>
    go_wp2_with fail
    go_meet
    exact ⟨_, _, _, _, _, _, _, rfl, ⟨by go_simp, by go_simp, by go_simp, by go_simp⟩, ⟨rfl, rfl, rfl, rfl, rfl, rfl⟩, ⟨by go_simp, by go_simp, by go_simp, by go_simp, by go_simp, by go_simp, by go_simp, by go_simp, by go_simp, by go_simp, by go_simp, by go_simp⟩, ⟨by go_simp, by go_simp, by go_simp, by go_simp, by go_simp, by go_simp, by go_simp, by go_simp, fun k => by go_simp, fun k => by go_simp, fun k => by go_simp⟩, by (repeat (first | exact gb_refl _ _ | refine gb_alloc ?_ _)), ⟨by omega, by omega, by omega, by omega, by omega, by omega⟩, by omega, by omega, by omega⟩
  case rest =>
  obtain ⟨bd, br, bs, bm, g4, g5, g6, rfl, ⟨mm0, mm1, mm2, mm3⟩, ⟨rfl, rfl, rfl, rfl, rfl, rfl⟩, hbase, hzero, hgw, ⟨d45, d46, d56, dr4, dr5, dr6⟩, l4, l5, l6⟩ := hcut
  obtain ⟨wx, rfl⟩ : ∃ wx : World, wx = wc := ⟨_, rfl⟩
  have HB := hid hbase
  have HZ := hid hzero
  have HG := hid hgw
  obtain ⟨c0, c1, c2, c3, c4, c5, c6, c7, c8, c9, c10, c11⟩ := hbase
  clear hzero hgw
  have z0 : g6 < wx.heap.size := World.block_lt_of_cell? wx _ HZ.out.2.2.2.2.2.2.1
  have z04 : g4 < wx.heap.size := World.block_lt_of_cell? wx _ HZ.out.1
  have z05 : g5 < wx.heap.size := World.block_lt_of_cell? wx _ HZ.out.2.2.2.2.1
  have z9 : bm < wx.heap.size := World.block_lt_of_cell? wx _ mm0
  have z1 : bd < wx.heap.size := World.block_lt_of_cell? wx _ c0
  have z2 : br < wx.heap.size := World.block_lt_of_cell? wx _ c4
  have z3 : bs < wx.heap.size := World.block_lt_of_cell? wx _ c8
  go_upto_region 1 with fail
  go_cut [21] (fun v wy => ∃ g, v = .pointer (some ⟨g, 0, none⟩) ∧ wx.heap.size ≤ g ∧ wy.cell? ⟨g, 0, none⟩ = some (.int .i64 i0) ∧ wy.cell? ⟨g, 1, none⟩ = some (.int .i64 i1) ∧ wy.cell? ⟨g, 2, none⟩ = some (.int .i64 i2) ∧ wy.cell? ⟨g, 3, none⟩ = some (.int .i64 i3) ∧ (∀ k, wy.frozen? ⟨g, k, none⟩ = false) ∧ wx.grownBy wy none)
  case first =>
    obtain ⟨ha0, ha1, ha2, ha3⟩ := Ha.out
    obtain ⟨hb0, hb1, hb2, hb3⟩ := HI.out
    have HAB := hid (And.intro (And.intro ha0 (And.intro ha1 (And.intro ha2 ha3))) (And.intro hb0 (And.intro hb1 (And.intro hb2 hb3))))
    clear ha0 ha1 ha2 ha3 hb0 hb1 hb2 hb3
    go_wp2_with fail
    go_region_held3 (fun W => W.cell? ⟨bd, 0, none⟩ = some (.int .i64 d0) ∧ W.cell? ⟨bd, 1, none⟩ = some (.int .i64 d1) ∧ W.cell? ⟨bd, 2, none⟩ = some (.int .i64 d2) ∧ W.cell? ⟨bd, 3, none⟩ = some (.int .i64 d3) ∧ W.cell? ⟨br, 0, none⟩ = some (.int .i64 x0) ∧ W.cell? ⟨br, 1, none⟩ = some (.int .i64 y0) ∧ W.cell? ⟨br, 2, none⟩ = some (.int .i64 x1) ∧ W.cell? ⟨br, 3, none⟩ = some (.int .i64 y1) ∧ W.cell? ⟨bs, 0, none⟩ = some (.int .i64 s0) ∧ W.cell? ⟨bs, 1, none⟩ = some (.int .i64 s1) ∧ W.cell? ⟨bs, 2, none⟩ = some (.int .i64 s2) ∧ W.cell? ⟨bs, 3, none⟩ = some (.int .i64 s3)) (first | (go_simp; done) | assumption)
      (first
      | (go_at_call_of 26 (Value.int IntKind.i64 d2); refine (scommon_c x0 y0 x1 y1 d0 d1 d2 d3 _).mono ?_; rintro e w2 ⟨rfl, hg⟩; rw [isec_ia, HAB.out.1.1, HAB.out.1.2.1, HAB.out.1.2.2.1, HAB.out.1.2.2.2]
         have hs2 := base_kept (by assumption) hg
         have hB2 := gb_trans (a := wx) (by (repeat (first | exact gb_refl _ _ | refine gb_drew ?_ | refine gb_alloc ?_ _))) hg
         have y2 := hB2.size
         obtain ⟨cc2, ff2⟩ := gb_rules hg
         have v2 := hg.size
         (try simp at v2)
         (try have v2a : wx.heap.size < w2.heap.size := by omega)
         have y2a : bd < w2.heap.size := by omega
         have y2b : br < w2.heap.size := by omega
         have y2c : bs < w2.heap.size := by omega
         clear hg)
      | (go_at_call 31; refine (smoved_c s0 s1 s2 s3 (x0 - px) (y0 - py) _ Hs.out.1 Hs.out.2.1 Hs.out.2.2.1 Hs.out.2.2.2.1 Hs.out.2.2.2.2.1 Hs.out.2.2.2.2.2).mono ?_; rintro e w3 ⟨rfl, hg⟩
         have hs3 := base_kept (by assumption) hg
         have hB3 := gb_trans (a := wx) (by (repeat (first | exact hB2 | refine gb_drew ?_ | refine gb_alloc ?_ _))) hg
         have y3 := hB3.size
         have v3 := hg.size
         (try simp at v3)
         (try have v3a : wx.heap.size < w3.heap.size := by omega)
         (try have v3b : w2.heap.size < w3.heap.size := by omega)
         have y3a : bd < w3.heap.size := by omega
         have y3b : br < w3.heap.size := by omega
         have y3c : bs < w3.heap.size := by omega
         obtain ⟨cc3, ff3⟩ := gb_rules hg
         clear hg)
      | (go_at_call 26; refine (scommon_c a0 a1 a2 a3 (s0 + (x0 - px)) (s1 + (y0 - py)) (s2 + (x0 - px)) (s3 + (y0 - py)) _).mono ?_; rintro e w4 ⟨rfl, hg⟩; rw [isec_ia, HAB.out.2.1, HAB.out.2.2.1, HAB.out.2.2.2.1, HAB.out.2.2.2.2]
         have hs4 := base_kept (by assumption) hg
         have hB4 := gb_trans (a := wx) (by (repeat (first | exact hB3 | refine gb_drew ?_ | refine gb_alloc ?_ _))) hg
         have y4 := hB4.size
         have v4 := hg.size
         (try simp at v4)
         (try have v4a : wx.heap.size < w4.heap.size := by omega)
         (try have v4b : w2.heap.size < w4.heap.size := by omega)
         (try have v4c : w3.heap.size < w4.heap.size := by omega)
         have y4a : bd < w4.heap.size := by omega
         have y4b : br < w4.heap.size := by omega
         have y4c : bs < w4.heap.size := by omega
         obtain ⟨cc4, ff4⟩ := gb_rules hg
         clear hg))
    all_goals (go_wp2_with fail; go_meet; refine ⟨_, rfl, by omega, by go_simp, by go_simp, by go_simp, by go_simp, fun k => by go_simp, ?_⟩; (repeat (first | exact hB4 | exact gb_refl _ _ | refine gb_drew ?_ | refine gb_alloc ?_ _ | refine gb_setCell ?_ (.inr (by dsimp only; omega)) _)))
  case rest =>
  obtain ⟨g, rfl, hg, k0, k1, k2, k3, hfz, hgw⟩ := hcut
  obtain ⟨wy, rfl⟩ : ∃ wy : World, wy = wc := ⟨_, rfl⟩
  have HGY := hid hgw
  have x0' := (gb_cell0 hgw (p := ⟨br, 0, none⟩) (by dsimp only; omega)).trans c4
  have x1' := (gb_cell0 hgw (p := ⟨br, 1, none⟩) (by dsimp only; omega)).trans c5
  have mm0' := (gb_cell0 hgw (p := ⟨bm, 0, none⟩) (by dsimp only; omega)).trans mm0
  have mm1' := (gb_cell0 hgw (p := ⟨bm, 1, none⟩) (by dsimp only; omega)).trans mm1
  have mm2' := (gb_cell0 hgw (p := ⟨bm, 2, none⟩) (by dsimp only; omega)).trans mm2
  have mm3' := (gb_cell0 hgw (p := ⟨bm, 3, none⟩) (by dsimp only; omega)).trans mm3
  have zy1 := World.block_lt_of_cell? wy _ x0'
  have zy2 := World.block_lt_of_cell? wy _ mm0'
  have zy3 := World.block_lt_of_cell? wy _ k0
  have hgb := hgw.size
  clear hgw
  go_upto_region 3 with fail
  refine wp_region_inv (JL wy [some (vR i0 i1 i2 i3), some (vR m0 m1 m2 m3), some (.pointer (some ⟨br, 0, none⟩)), some (.int .i64 x0), some (.int .i64 qx), some (.int .i64 (x0 - qx)), some (.pointer (some ⟨br, 1, none⟩)), some (.int .i64 y0), some (.int .i64 qy), some (.int .i64 (y0 - qy)), some (vR (m0 + (x0 - qx)) (m1 + (y0 - qy)) (m2 + (x0 - qx)) (m3 + (y0 - qy))), some (vR b0 b1 b2 b3), none] [(3, 2), (5, 3), (5, 4), (7, 6), (9, 7), (9, 8), (10, 1), (10, 5), (10, 9), (11, 0), (11, 10), (12, 11)] 12 (fun wz => wz.cell? ⟨g, 0, none⟩ = some (.int .i64 b0) ∧ wz.cell? ⟨g, 1, none⟩ = some (.int .i64 b1) ∧ wz.cell? ⟨g, 2, none⟩ = some (.int .i64 b2) ∧ wz.cell? ⟨g, 3, none⟩ = some (.int .i64 b3) ∧ wx.grownBy wz none)) (fun _ => undef) (by kernel_rfl) (by kernel_rfl) [(0, 37), (1, 38), (2, 39), (3, 40), (4, 41), (5, 42), (6, 43), (7, 44), (8, 45), (9, 46), (10, 47), (11, 48)] (by kernel_rfl) (JL.start (by (repeat (first | exact gb_refl _ _ | refine gb_drew ?_))) rfl) ?_ ?_
  · refine Steps'.cons [] (by kernel_rfl) ?_ (Steps'.cons [] (by kernel_rfl) ?_ (Steps'.cons [] (by kernel_rfl) ?_ (Steps'.cons [(2, 39)] (by kernel_rfl) ?_ (Steps'.cons [] (by kernel_rfl) ?_ (Steps'.cons [(3, 40), (4, 41)] (by kernel_rfl) ?_ (Steps'.cons [] (by kernel_rfl) ?_ (Steps'.cons [(6, 43)] (by kernel_rfl) ?_ (Steps'.cons [] (by kernel_rfl) ?_ (Steps'.cons [(7, 44), (8, 45)] (by kernel_rfl) ?_ (Steps'.cons [(1, 38), (5, 42), (9, 46)] (by kernel_rfl) ?_ (Steps'.cons [(0, 37), (10, 47)] (by kernel_rfl) ?_ (Steps'.cons [(11, 48)] (by kernel_rfl) ?_ (Steps'.nil)))))))))))))
    · intro l t w7 hJ hl hd bb hbb K hK
      have hgw := hJ.gb hl (by decide)
      have hE : ∀ p : Nat × Nat, p ∈ ([(3, 2), (5, 3), (5, 4), (7, 6), (9, 7), (9, 8), (10, 1), (10, 5), (10, 9), (11, 0), (11, 10), (12, 11)] : List (Nat × Nat)) → p.1 = 0 → l p.2 = true := by
        intro p hp e
        simp only [List.mem_cons, List.not_mem_nil, or_false] at hp
        rcases hp with rfl | rfl | rfl | rfl | rfl | rfl | rfl | rfl | rfl | rfl | rfl | rfl <;> (first | exact absurd e (by decide) | exact hd _ (by kernel_rfl))
      have f0 := (gb_cell0 hgw (p := ⟨g, 0, none⟩) zy3).trans k0
      have f1 := (gb_cell0 hgw (p := ⟨g, 1, none⟩) zy3).trans k1
      have f2 := (gb_cell0 hgw (p := ⟨g, 2, none⟩) zy3).trans k2
      have f3 := (gb_cell0 hgw (p := ⟨g, 3, none⟩) zy3).trans k3
      simp only [puts, Act.put, List.setIfInBounds_toArray, List.set_cons_zero, List.set_cons_succ] at hbb
      subst hbb
      go_simp
      exact hK.out _ _ (hJ.pure hl (by decide) hE (gb_refl _ _) rfl)
    · intro l t w7 hJ hl hd bb hbb K hK
      have hgw := hJ.gb hl (by decide)
      have hE : ∀ p : Nat × Nat, p ∈ ([(3, 2), (5, 3), (5, 4), (7, 6), (9, 7), (9, 8), (10, 1), (10, 5), (10, 9), (11, 0), (11, 10), (12, 11)] : List (Nat × Nat)) → p.1 = 1 → l p.2 = true := by
        intro p hp e
        simp only [List.mem_cons, List.not_mem_nil, or_false] at hp
        rcases hp with rfl | rfl | rfl | rfl | rfl | rfl | rfl | rfl | rfl | rfl | rfl | rfl <;> (first | exact absurd e (by decide) | exact hd _ (by kernel_rfl))
      have f0 := (gb_cell0 hgw (p := ⟨bm, 0, none⟩) zy2).trans mm0'
      have f1 := (gb_cell0 hgw (p := ⟨bm, 1, none⟩) zy2).trans mm1'
      have f2 := (gb_cell0 hgw (p := ⟨bm, 2, none⟩) zy2).trans mm2'
      have f3 := (gb_cell0 hgw (p := ⟨bm, 3, none⟩) zy2).trans mm3'
      simp only [puts, Act.put, List.setIfInBounds_toArray, List.set_cons_zero, List.set_cons_succ] at hbb
      subst hbb
      go_simp
      exact hK.out _ _ (hJ.pure hl (by decide) hE (gb_refl _ _) rfl)
    · intro l t w7 hJ hl hd bb hbb K hK
      have hgw := hJ.gb hl (by decide)
      have hE : ∀ p : Nat × Nat, p ∈ ([(3, 2), (5, 3), (5, 4), (7, 6), (9, 7), (9, 8), (10, 1), (10, 5), (10, 9), (11, 0), (11, 10), (12, 11)] : List (Nat × Nat)) → p.1 = 2 → l p.2 = true := by
        intro p hp e
        simp only [List.mem_cons, List.not_mem_nil, or_false] at hp
        rcases hp with rfl | rfl | rfl | rfl | rfl | rfl | rfl | rfl | rfl | rfl | rfl | rfl <;> (first | exact absurd e (by decide) | exact hd _ (by kernel_rfl))
      simp only [puts, Act.put, List.setIfInBounds_toArray, List.set_cons_zero, List.set_cons_succ] at hbb
      subst hbb
      go_simp
      exact hK.out _ _ (hJ.pure hl (by decide) hE (gb_refl _ _) rfl)
    · intro l t w7 hJ hl hd bb hbb K hK
      have hgw := hJ.gb hl (by decide)
      have hE : ∀ p : Nat × Nat, p ∈ ([(3, 2), (5, 3), (5, 4), (7, 6), (9, 7), (9, 8), (10, 1), (10, 5), (10, 9), (11, 0), (11, 10), (12, 11)] : List (Nat × Nat)) → p.1 = 3 → l p.2 = true := by
        intro p hp e
        simp only [List.mem_cons, List.not_mem_nil, or_false] at hp
        rcases hp with rfl | rfl | rfl | rfl | rfl | rfl | rfl | rfl | rfl | rfl | rfl | rfl <;> (first | exact absurd e (by decide) | exact hd _ (by kernel_rfl))
      have f0 := (gb_cell0 hgw (p := ⟨br, 0, none⟩) zy1).trans x0'
      have e2 := hJ.val 2 _ rfl (hd 2 (by kernel_rfl))
      simp only [puts, Act.put, List.setIfInBounds_toArray, List.set_cons_zero, List.set_cons_succ] at hbb
      rw [e2] at hbb
      subst hbb
      go_simp
      exact hK.out _ _ (hJ.pure hl (by decide) hE (gb_refl _ _) rfl)
    · intro l t w7 hJ hl hd bb hbb K hK
      have hgw := hJ.gb hl (by decide)
      have hE : ∀ p : Nat × Nat, p ∈ ([(3, 2), (5, 3), (5, 4), (7, 6), (9, 7), (9, 8), (10, 1), (10, 5), (10, 9), (11, 0), (11, 10), (12, 11)] : List (Nat × Nat)) → p.1 = 4 → l p.2 = true := by
        intro p hp e
        simp only [List.mem_cons, List.not_mem_nil, or_false] at hp
        rcases hp with rfl | rfl | rfl | rfl | rfl | rfl | rfl | rfl | rfl | rfl | rfl | rfl <;> (first | exact absurd e (by decide) | exact hd _ (by kernel_rfl))
      simp only [puts, Act.put, List.setIfInBounds_toArray, List.set_cons_zero, List.set_cons_succ] at hbb
      subst hbb
      go_simp
      exact hK.out _ _ (hJ.pure hl (by decide) hE (gb_refl _ _) rfl)
    · intro l t w7 hJ hl hd bb hbb K hK
      have hgw := hJ.gb hl (by decide)
      have hE : ∀ p : Nat × Nat, p ∈ ([(3, 2), (5, 3), (5, 4), (7, 6), (9, 7), (9, 8), (10, 1), (10, 5), (10, 9), (11, 0), (11, 10), (12, 11)] : List (Nat × Nat)) → p.1 = 5 → l p.2 = true := by
        intro p hp e
        simp only [List.mem_cons, List.not_mem_nil, or_false] at hp
        rcases hp with rfl | rfl | rfl | rfl | rfl | rfl | rfl | rfl | rfl | rfl | rfl | rfl <;> (first | exact absurd e (by decide) | exact hd _ (by kernel_rfl))
      have e3 := hJ.val 3 _ rfl (hd 3 (by kernel_rfl))
      have e4 := hJ.val 4 _ rfl (hd 4 (by kernel_rfl))
      simp only [puts, Act.put, List.setIfInBounds_toArray, List.set_cons_zero, List.set_cons_succ] at hbb
      rw [e3] at hbb
      rw [e4] at hbb
      subst hbb
      go_simp
      exact hK.out _ _ (hJ.pure hl (by decide) hE (gb_refl _ _) rfl)
    · intro l t w7 hJ hl hd bb hbb K hK
      have hgw := hJ.gb hl (by decide)
      have hE : ∀ p : Nat × Nat, p ∈ ([(3, 2), (5, 3), (5, 4), (7, 6), (9, 7), (9, 8), (10, 1), (10, 5), (10, 9), (11, 0), (11, 10), (12, 11)] : List (Nat × Nat)) → p.1 = 6 → l p.2 = true := by
        intro p hp e
        simp only [List.mem_cons, List.not_mem_nil, or_false] at hp
        rcases hp with rfl | rfl | rfl | rfl | rfl | rfl | rfl | rfl | rfl | rfl | rfl | rfl <;> (first | exact absurd e (by decide) | exact hd _ (by kernel_rfl))
      simp only [puts, Act.put, List.setIfInBounds_toArray, List.set_cons_zero, List.set_cons_succ] at hbb
      subst hbb
      go_simp
      exact hK.out _ _ (hJ.pure hl (by decide) hE (gb_refl _ _) rfl)
    · intro l t w7 hJ hl hd bb hbb K hK
      have hgw := hJ.gb hl (by decide)
      have hE : ∀ p : Nat × Nat, p ∈ ([(3, 2), (5, 3), (5, 4), (7, 6), (9, 7), (9, 8), (10, 1), (10, 5), (10, 9), (11, 0), (11, 10), (12, 11)] : List (Nat × Nat)) → p.1 = 7 → l p.2 = true := by
        intro p hp e
        simp only [List.mem_cons, List.not_mem_nil, or_false] at hp
        rcases hp with rfl | rfl | rfl | rfl | rfl | rfl | rfl | rfl | rfl | rfl | rfl | rfl <;> (first | exact absurd e (by decide) | exact hd _ (by kernel_rfl))
      have f1 := (gb_cell0 hgw (p := ⟨br, 1, none⟩) zy1).trans x1'
      have e6 := hJ.val 6 _ rfl (hd 6 (by kernel_rfl))
      simp only [puts, Act.put, List.setIfInBounds_toArray, List.set_cons_zero, List.set_cons_succ] at hbb
      rw [e6] at hbb
      subst hbb
      go_simp
      exact hK.out _ _ (hJ.pure hl (by decide) hE (gb_refl _ _) rfl)
    · intro l t w7 hJ hl hd bb hbb K hK
      have hgw := hJ.gb hl (by decide)
      have hE : ∀ p : Nat × Nat, p ∈ ([(3, 2), (5, 3), (5, 4), (7, 6), (9, 7), (9, 8), (10, 1), (10, 5), (10, 9), (11, 0), (11, 10), (12, 11)] : List (Nat × Nat)) → p.1 = 8 → l p.2 = true := by
        intro p hp e
        simp only [List.mem_cons, List.not_mem_nil, or_false] at hp
        rcases hp with rfl | rfl | rfl | rfl | rfl | rfl | rfl | rfl | rfl | rfl | rfl | rfl <;> (first | exact absurd e (by decide) | exact hd _ (by kernel_rfl))
      simp only [puts, Act.put, List.setIfInBounds_toArray, List.set_cons_zero, List.set_cons_succ] at hbb
      subst hbb
      go_simp
      exact hK.out _ _ (hJ.pure hl (by decide) hE (gb_refl _ _) rfl)
    · intro l t w7 hJ hl hd bb hbb K hK
      have hgw := hJ.gb hl (by decide)
      have hE : ∀ p : Nat × Nat, p ∈ ([(3, 2), (5, 3), (5, 4), (7, 6), (9, 7), (9, 8), (10, 1), (10, 5), (10, 9), (11, 0), (11, 10), (12, 11)] : List (Nat × Nat)) → p.1 = 9 → l p.2 = true := by
        intro p hp e
        simp only [List.mem_cons, List.not_mem_nil, or_false] at hp
        rcases hp with rfl | rfl | rfl | rfl | rfl | rfl | rfl | rfl | rfl | rfl | rfl | rfl <;> (first | exact absurd e (by decide) | exact hd _ (by kernel_rfl))
      have e7 := hJ.val 7 _ rfl (hd 7 (by kernel_rfl))
      have e8 := hJ.val 8 _ rfl (hd 8 (by kernel_rfl))
      simp only [puts, Act.put, List.setIfInBounds_toArray, List.set_cons_zero, List.set_cons_succ] at hbb
      rw [e7] at hbb
      rw [e8] at hbb
      subst hbb
      go_simp
      exact hK.out _ _ (hJ.pure hl (by decide) hE (gb_refl _ _) rfl)
    · intro l t w7 hJ hl hd bb hbb K hK
      have hgw := hJ.gb hl (by decide)
      have hE : ∀ p : Nat × Nat, p ∈ ([(3, 2), (5, 3), (5, 4), (7, 6), (9, 7), (9, 8), (10, 1), (10, 5), (10, 9), (11, 0), (11, 10), (12, 11)] : List (Nat × Nat)) → p.1 = 10 → l p.2 = true := by
        intro p hp e
        simp only [List.mem_cons, List.not_mem_nil, or_false] at hp
        rcases hp with rfl | rfl | rfl | rfl | rfl | rfl | rfl | rfl | rfl | rfl | rfl | rfl <;> (first | exact absurd e (by decide) | exact hd _ (by kernel_rfl))
      have e1 := hJ.val 1 _ rfl (hd 1 (by kernel_rfl))
      have e5 := hJ.val 5 _ rfl (hd 5 (by kernel_rfl))
      have e9 := hJ.val 9 _ rfl (hd 9 (by kernel_rfl))
      simp only [puts, Act.put, List.setIfInBounds_toArray, List.set_cons_zero, List.set_cons_succ] at hbb
      rw [e1] at hbb
      rw [e5] at hbb
      rw [e9] at hbb
      subst hbb
      go_simp
      refine (smoved_c m0 m1 m2 m3 (x0 - qx) (y0 - qy) _ HM.out.1 HM.out.2.1 HM.out.2.2.1 HM.out.2.2.2.1 HM.out.2.2.2.2.1 HM.out.2.2.2.2.2).mono ?_
      rintro e w8 ⟨rfl, hg⟩
      exact hK.out _ _ (hJ.pure hl (by decide) hE hg rfl)
    · intro l t w7 hJ hl hd bb hbb K hK
      have hgw := hJ.gb hl (by decide)
      have hE : ∀ p : Nat × Nat, p ∈ ([(3, 2), (5, 3), (5, 4), (7, 6), (9, 7), (9, 8), (10, 1), (10, 5), (10, 9), (11, 0), (11, 10), (12, 11)] : List (Nat × Nat)) → p.1 = 11 → l p.2 = true := by
        intro p hp e
        simp only [List.mem_cons, List.not_mem_nil, or_false] at hp
        rcases hp with rfl | rfl | rfl | rfl | rfl | rfl | rfl | rfl | rfl | rfl | rfl | rfl <;> (first | exact absurd e (by decide) | exact hd _ (by kernel_rfl))
      have e0 := hJ.val 0 _ rfl (hd 0 (by kernel_rfl))
      have e10 := hJ.val 10 _ rfl (hd 10 (by kernel_rfl))
      simp only [puts, Act.put, List.setIfInBounds_toArray, List.set_cons_zero, List.set_cons_succ] at hbb
      rw [e0] at hbb
      rw [e10] at hbb
      subst hbb
      go_simp
      refine (scommon_c i0 i1 i2 i3 (m0 + (x0 - qx)) (m1 + (y0 - qy)) (m2 + (x0 - qx)) (m3 + (y0 - qy)) _).mono ?_
      rintro e w8 ⟨rfl, hg⟩
      rw [isec_ia, Hb.out.1, Hb.out.2.1, Hb.out.2.2.1, Hb.out.2.2.2]
      exact hK.out _ _ (hJ.pure hl (by decide) hE hg rfl)
    · intro l t w7 hJ hl hd bb hbb K hK
      have hgw := hJ.gb hl (by decide)
      have hE : ∀ p : Nat × Nat, p ∈ ([(3, 2), (5, 3), (5, 4), (7, 6), (9, 7), (9, 8), (10, 1), (10, 5), (10, 9), (11, 0), (11, 10), (12, 11)] : List (Nat × Nat)) → p.1 = 12 → l p.2 = true := by
        intro p hp e
        simp only [List.mem_cons, List.not_mem_nil, or_false] at hp
        rcases hp with rfl | rfl | rfl | rfl | rfl | rfl | rfl | rfl | rfl | rfl | rfl | rfl <;> (first | exact absurd e (by decide) | exact hd _ (by kernel_rfl))
      have f0 := (gb_cell0 hgw (p := ⟨g, 0, none⟩) zy3).trans k0
      have f1 := (gb_cell0 hgw (p := ⟨g, 1, none⟩) zy3).trans k1
      have f2 := (gb_cell0 hgw (p := ⟨g, 2, none⟩) zy3).trans k2
      have f3 := (gb_cell0 hgw (p := ⟨g, 3, none⟩) zy3).trans k3
      have hf : ∀ k, w7.frozen? ⟨g, k, none⟩ = false := fun k => (gb_free0 hgw (p := ⟨g, k, none⟩) zy3).trans (hfz k)
      have e11 := hJ.val 11 _ rfl (hd 11 (by kernel_rfl))
      simp only [puts, Act.put, List.setIfInBounds_toArray, List.set_cons_zero, List.set_cons_succ] at hbb
      rw [e11] at hbb
      subst hbb
      go_simp
      obtain ⟨y1, y2, y3⟩ := st4 (v0 := .int .i64 b0) (v1 := .int .i64 b1) (v2 := .int .i64 b2) (v3 := .int .i64 b3) f0 f1 f2 f3
      exact hK.out _ _ (hJ.last hE rfl ⟨y2 0 _ rfl, y2 1 _ rfl, y2 2 _ rfl, y2 3 _ rfl, gb_setCell (gb_setCell (gb_setCell (gb_setCell (gb_trans HGY.out hgw) (.inr hg) _) (.inr hg) _) (.inr hg) _) (.inr hg) _⟩ undef)
  intro l t wc hJ hlx
  have hD := hJ.done (hlx 12 (by decide))
  clear hJ hlx
  simp only [puts, Act.put, List.setIfInBounds_toArray, List.set_cons_zero, List.set_cons_succ]
  clear k0 k1 k2 k3 x0' x1' mm0' mm1' mm2' mm3' zy1 zy2 zy3 hfz hgb HGY
  obtain ⟨k0, k1, k2, k3, hgw⟩ := hD
  have n4 : g ≠ g4 := by omega
  have n5 : g ≠ g5 := by omega
  have n6 : g ≠ g6 := by omega
  have z4 := z04
  have z5 := z05
  have x0' := (gb_cell0 hgw (p := ⟨br, 0, none⟩) (by dsimp only; omega)).trans c4
  have x1' := (gb_cell0 hgw (p := ⟨br, 1, none⟩) (by dsimp only; omega)).trans c5
  obtain ⟨e0, e1, e2, e3, e4, e5, e6, e7, F4, F5, F6⟩ := HZ.out
  have e0' := (gb_cell0 hgw (p := ⟨g4, 0, none⟩) (by dsimp only; omega)).trans e0
  have e1' := (gb_cell0 hgw (p := ⟨g4, 1, none⟩) (by dsimp only; omega)).trans e1
  have e2' := (gb_cell0 hgw (p := ⟨g4, 2, none⟩) (by dsimp only; omega)).trans e2
  have e3' := (gb_cell0 hgw (p := ⟨g4, 3, none⟩) (by dsimp only; omega)).trans e3
  have e4' := (gb_cell0 hgw (p := ⟨g5, 0, none⟩) (by dsimp only; omega)).trans e4
  have e5' := (gb_cell0 hgw (p := ⟨g5, 1, none⟩) (by dsimp only; omega)).trans e5
  have e6' := (gb_cell0 hgw (p := ⟨g6, 0, none⟩) (by dsimp only; omega)).trans e6
  have e7' := (gb_cell0 hgw (p := ⟨g6, 1, none⟩) (by dsimp only; omega)).trans e7
  have HE := hid (And.intro e0' (And.intro e1' (And.intro e2' (And.intro e3' (And.intro e4' (And.intro e5' (And.intro e6' e7')))))))
  have F4' : ∀ k, wc.frozen? ⟨g4, k, none⟩ = false := fun k => (gb_free0 hgw (p := ⟨g4, k, none⟩) z4).trans (F4 k)
  have F5' : ∀ k, wc.frozen? ⟨g5, k, none⟩ = false := fun k => (gb_free0 hgw (p := ⟨g5, k, none⟩) z5).trans (F5 k)
  have F6' : ∀ k, wc.frozen? ⟨g6, k, none⟩ = false := fun k => (gb_free0 hgw (p := ⟨g6, k, none⟩) z0).trans (F6 k)
  have HGW := hid (gb_trans HG.out hgw)
  have HQ := hid z0
  clear hgw c0 c1 c2 c3 c4 c5 c6 c7 c8 c9 c10 c11 e0 e1 e2 e3 e4 e5 e6 e7 F4 F5 F6 hg z0 z4 z5 r1 r2 r3 r4 mm0 mm1 mm2 mm3 z9
  obtain ⟨f1, f2, f3, f4⟩ := Hp.out
  have w1 : IntKind.i64.wrap (px + b0) = px + b0 := IntWalk.i64_in _ (by omega)
  have w2 : IntKind.i64.wrap (px + b0 - x0) = px + b0 - x0 := IntWalk.i64_in _ (by omega)
  have w3 : IntKind.i64.wrap (py + b1) = py + b1 := IntWalk.i64_in _ (by omega)
  have w4 : IntKind.i64.wrap (py + b1 - y0) = py + b1 - y0 := IntWalk.i64_in _ (by omega)
  have w5 : IntKind.i64.wrap (qx + b0) = qx + b0 := IntWalk.i64_in _ (by omega)
  have w6 : IntKind.i64.wrap (qx + b0 - x0) = qx + b0 - x0 := IntWalk.i64_in _ (by omega)
  have w7 : IntKind.i64.wrap (qy + b1) = qy + b1 := IntWalk.i64_in _ (by omega)
  have w8 : IntKind.i64.wrap (qy + b1 - y0) = qy + b1 - y0 := IntWalk.i64_in _ (by omega)
  clear f1 f2 f3 f4
  go_upto_region 4 with fail
  go_cut [18, 19, 20] (fun t18 t19 t20 wz => t18 = .pointer (some ⟨g4, 0, none⟩) ∧ t19 = .pointer (some ⟨g5, 0, none⟩) ∧ t20 = .pointer (some ⟨g6, 0, none⟩) ∧ wz.cell? ⟨g4, 0, none⟩ = some (.int .i64 b0) ∧ wz.cell? ⟨g4, 1, none⟩ = some (.int .i64 b1) ∧ wz.cell? ⟨g4, 2, none⟩ = some (.int .i64 b2) ∧ wz.cell? ⟨g4, 3, none⟩ = some (.int .i64 b3) ∧ wz.cell? ⟨g5, 0, none⟩ = some (.int .i64 (px + b0 - x0)) ∧ wz.cell? ⟨g5, 1, none⟩ = some (.int .i64 (py + b1 - y0)) ∧ wz.cell? ⟨g6, 0, none⟩ = some (.int .i64 (qx + b0 - x0)) ∧ wz.cell? ⟨g6, 1, none⟩ = some (.int .i64 (qy + b1 - y0)) ∧ w.grownBy wz none)
  case first =>
    go_wp2_with fail
    go_region_held3 (fun W => W.cell? ⟨g, 0, none⟩ = some (.int .i64 b0) ∧ W.cell? ⟨g, 1, none⟩ = some (.int .i64 b1) ∧ W.cell? ⟨g, 2, none⟩ = some (.int .i64 b2) ∧ W.cell? ⟨g, 3, none⟩ = some (.int .i64 b3) ∧ W.cell? ⟨br, 0, none⟩ = some (.int .i64 x0) ∧ W.cell? ⟨br, 1, none⟩ = some (.int .i64 y0)) (go_simp) (fail)
    all_goals (go_wp2_with fail; go_meet; exact ⟨rfl, rfl, rfl, fin_step HGW.out d45 d46 d56 l4 l5 l6 HE.out⟩)
  case rest =>
  obtain ⟨rfl, rfl, rfl, r0, r1, r2, r3, r4, r5, r6, r7, hgz⟩ := hcut
  have HGZ := hid hgz
  clear hgz w1 w2 w3 w4 w5 w6 w7 w8 k0 k1 k2 k3 x0' x1' e0' e1' e2' e3' e4' e5' e6' e7' F4' F5' F6'
  go_wp2_with fail
  obtain ⟨f1, f2, f3, f4⟩ := Hp.out
  refine bodyPost_ret (v := .tuple #[vR b0 b1 b2 b3, vP (px + b0 - x0) (py + b1 - y0), vP (qx + b0 - x0) (qy + b1 - y0)]) (by simp [results, Tryz.results18, go_sem, r0, r1, r2, r3, r4, r5, r6, r7]) rfl ⟨?_, HGZ.out⟩
  rw [show px + b0 - x0 = p0 by omega, show py + b1 - y0 = p1 by omega, show qx + b0 - x0 = q0 by omega, show qy + b1 - y0 = q1 by omega]
end Go.Proofs.YtgjpohmjkhgpfaaGreat
