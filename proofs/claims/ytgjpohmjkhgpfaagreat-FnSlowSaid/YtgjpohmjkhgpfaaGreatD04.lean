/- Parts of the proof: what the functions of the package and of the reference do (V1, X0, G, LB, LD). No condition but those that each theorem names. -/
import Derived.Test.YtgjpohmjkhgpfaaGreatD02
import Derived.Test.YtgjpohmjkhgpfaaGreatD03
import Derived.Deep.RegionWith
import Derived.IntWalk
set_option linter.unusedSimpArgs false
set_option linter.unusedVariables false
namespace Go.Proofs.YtgjpohmjkhgpfaaGreat
open Go.RowKit

set_option maxRecDepth 100000 in
set_option maxHeartbeats 8000000 in
theorem clip0_c {w0 w : World} {br bp bq : Nat} {td ts : TypeId} {vd vs : Value} {x0 y0 x1 y1 px py qx qy d0 d1 d2 d3 s0 s1 s2 s3 a0 a1 a2 a3 b0 b1 b2 b3 : Int}
    (hg0 : w0.grownBy w none) (hbr : w0.heap.size ≤ br) (hbp : w0.heap.size ≤ bp) (hbq : w0.heap.size ≤ bq) (n1 : br ≠ bp) (n2 : br ≠ bq) (n3 : bp ≠ bq)
    (hd : Bd w0 td vd d0 d1 d2 d3) (hs : Bd w0 ts vs s0 s1 s2 s3) (hc : Cp w br bp bq x0 y0 x1 y1 px py qx qy)
    (sx0 : sm x0) (sy0 : sm y0) (spx : sm px) (spy : sm py) (sqx : sm qx) (sqy : sm qy) (ss0 : sm s0) (ss1 : sm s1) (ss2 : sm s2) (ss3 : sm s3) (sd0 : sm (x0 - px)) (sd1 : sm (y0 - py))
    (ha0 : ia 0 x0 y0 x1 y1 d0 d1 d2 d3 = a0) (ha1 : ia 1 x0 y0 x1 y1 d0 d1 d2 d3 = a1) (ha2 : ia 2 x0 y0 x1 y1 d0 d1 d2 d3 = a2) (ha3 : ia 3 x0 y0 x1 y1 d0 d1 d2 d3 = a3)
    (hb0 : ia 0 a0 a1 a2 a3 (s0 + (x0 - px)) (s1 + (y0 - py)) (s2 + (x0 - px)) (s3 + (y0 - py)) = b0) (hb1 : ia 1 a0 a1 a2 a3 (s0 + (x0 - px)) (s1 + (y0 - py)) (s2 + (x0 - px)) (s3 + (y0 - py)) = b1)
    (hb2 : ia 2 a0 a1 a2 a3 (s0 + (x0 - px)) (s1 + (y0 - py)) (s2 + (x0 - px)) (s3 + (y0 - py)) = b2) (hb3 : ia 3 a0 a1 a2 a3 (s0 + (x0 - px)) (s1 + (y0 - py)) (s2 + (x0 - px)) (s3 + (y0 - py)) = b3)
    (sr0 : sm b0) (sr1 : sm b1) :
    Calls Tryz.prog 48 #[.iface td vd, .pointer (some ⟨br, 0, none⟩), .iface ts vs, .pointer (some ⟨bp, 0, none⟩), .nilIface, .pointer (some ⟨bq, 0, none⟩)] w fun e w' =>
      e = .returned (.tuple #[]) ∧ w0.grownBy w' none ∧ Cp w' br bp bq b0 b1 b2 b3 (px + (b0 - x0)) (py + (b1 - y0)) (qx + (b0 - x0)) (qy + (b1 - y0)) := by
  obtain ⟨f, hF, hf, hf2⟩ := hd
  obtain ⟨g, hG, hgm, hg2⟩ := hs
  have Hc0 := hid hc
  obtain ⟨c0', c1', c2', c3', p0, p1, q0, q1, fr, fp, fq⟩ := hc
  have lr : br < w.heap.size := World.block_lt_of_cell? w _ c0'
  have lp : bp < w.heap.size := World.block_lt_of_cell? w _ p0
  have lq : bq < w.heap.size := World.block_lt_of_cell? w _ q0
  have n4 : br ≠ w.heap.size := Nat.ne_of_lt lr
  unfold Fn at hF hG
  have Ha := hid (And.intro ha0 (And.intro ha1 (And.intro ha2 ha3)))
  have Hb := hid (And.intro hb0 (And.intro hb1 (And.intro hb2 hb3)))
  clear ha0 ha1 ha2 ha3 hb0 hb1 hb2 hb3
  go_enter Tryz.func48, Tryz.ntmps48
  go_upto_region 1 with fail
  obtain ⟨wz, hwz⟩ : ∃ wz : World, wz = (w.alloc (.cells #[.int .i64 x0, .int .i64 y0] 76)) := ⟨_, rfl⟩
  rw [← hwz]
  have hgz : w.grownBy wz none := by rw [hwz]; exact gb_alloc (gb_refl _ _) _
  have HO : Hid (wz.cell? ⟨w.heap.size, 0, none⟩ = some (.int .i64 x0) ∧ wz.cell? ⟨w.heap.size, 1, none⟩ = some (.int .i64 y0)) := by rw [hwz]; exact hid ⟨by go_simp, by go_simp⟩
  have HZ : Hid (w.heap.size < wz.heap.size) := by rw [hwz]; exact hid (by simp)
  have HG := hid (gb_trans hg0 hgz)
  have HC := hid (Hc0.out.grown hgz)
  clear hwz hg0 hgz c0' c1' c2' c3' p0 p1 q0 q1 fr fp fq lr lp lq Hc0
  refine wp_region_inv (JL wz [some (.pointer (some ⟨br, 0, none⟩)), some (.pointer (some ⟨br, 0, none⟩)), some (.pointer (some ⟨br, 0, none⟩)), some (vR x0 y0 x1 y1), some (.iface td vd), some (vR d0 d1 d2 d3), some (vR a0 a1 a2 a3), some (.pointer (some ⟨br, 0, none⟩)), none] [(2, 1), (3, 2), (5, 4), (6, 3), (6, 5), (7, 0), (8, 6), (8, 7)] 8 (fun wx => w0.grownBy wx none ∧ w.heap.size < wx.heap.size ∧ Cp wx br bp bq a0 a1 a2 a3 px py qx qy ∧ wx.cell? ⟨w.heap.size, 0, none⟩ = some (.int .i64 x0) ∧ wx.cell? ⟨w.heap.size, 1, none⟩ = some (.int .i64 y0))) (fun _ => undef) (by kernel_rfl) (by kernel_rfl) [(0, 19), (1, 20), (2, 21), (3, 22), (4, 23), (5, 24), (6, 25), (7, 26)] (by kernel_rfl) (JL.start (by (repeat (first | exact gb_refl _ _ | assumption | refine gb_drew ?_ | refine gb_drewN ?_ _ | refine gb_alloc ?_ _ | refine gb_setCell ?_ (.inr (by simp <;> omega)) _))) (by kernel_rfl)) ?_ ?_
  · refine Steps'.cons [] (by kernel_rfl) ?_ (Steps'.cons [] (by kernel_rfl) ?_ (Steps'.cons [(1, 20)] (by kernel_rfl) ?_ (Steps'.cons [(2, 21)] (by kernel_rfl) ?_ (Steps'.cons [] (by kernel_rfl) ?_ (Steps'.cons [(4, 23)] (by kernel_rfl) ?_ (Steps'.cons [(3, 22), (5, 24)] (by kernel_rfl) ?_ (Steps'.cons [(0, 19)] (by kernel_rfl) ?_ (Steps'.cons [(6, 25), (7, 26)] (by kernel_rfl) ?_ (Steps'.nil)))))))))
    · intro l t w7 hJ hl hd bb hbb K hK
      have hgw := hJ.gb hl (by decide)
      have hE : ∀ p : Nat × Nat, p ∈ ([(2, 1), (3, 2), (5, 4), (6, 3), (6, 5), (7, 0), (8, 6), (8, 7)] : List (Nat × Nat)) → p.1 = 0 → l p.2 = true := by
        intro p hp e
        simp only [List.mem_cons, List.not_mem_nil, or_false] at hp
        rcases hp with rfl | rfl | rfl | rfl | rfl | rfl | rfl | rfl <;> exact absurd e (by decide)
      simp only [puts, Act.put, List.setIfInBounds_toArray, List.set_cons_zero, List.set_cons_succ] at hbb
      subst hbb
      go_simp
      exact hK.out _ _ (hJ.pure hl (by decide) hE (gb_refl _ _) rfl)
    · intro l t w7 hJ hl hd bb hbb K hK
      have hgw := hJ.gb hl (by decide)
      have hE : ∀ p : Nat × Nat, p ∈ ([(2, 1), (3, 2), (5, 4), (6, 3), (6, 5), (7, 0), (8, 6), (8, 7)] : List (Nat × Nat)) → p.1 = 1 → l p.2 = true := by
        intro p hp e
        simp only [List.mem_cons, List.not_mem_nil, or_false] at hp
        rcases hp with rfl | rfl | rfl | rfl | rfl | rfl | rfl | rfl <;> exact absurd e (by decide)
      simp only [puts, Act.put, List.setIfInBounds_toArray, List.set_cons_zero, List.set_cons_succ] at hbb
      subst hbb
      go_simp
      exact hK.out _ _ (hJ.pure hl (by decide) hE (gb_refl _ _) rfl)
    · intro l t w7 hJ hl hd bb hbb K hK
      have hgw := hJ.gb hl (by decide)
      have hE : ∀ p : Nat × Nat, p ∈ ([(2, 1), (3, 2), (5, 4), (6, 3), (6, 5), (7, 0), (8, 6), (8, 7)] : List (Nat × Nat)) → p.1 = 2 → l p.2 = true := by
        intro p hp e
        simp only [List.mem_cons, List.not_mem_nil, or_false] at hp
        rcases hp with rfl | rfl | rfl | rfl | rfl | rfl | rfl | rfl
        · exact hd 1 (by kernel_rfl)
        · exact absurd e (by decide)
        · exact absurd e (by decide)
        · exact absurd e (by decide)
        · exact absurd e (by decide)
        · exact absurd e (by decide)
        · exact absurd e (by decide)
        · exact absurd e (by decide)
      have e1 := hJ.val 1 _ rfl (hd 1 (by kernel_rfl))
      simp only [puts, Act.put, List.setIfInBounds_toArray, List.set_cons_zero, List.set_cons_succ] at hbb
      rw [e1] at hbb
      subst hbb
      go_simp
      exact hK.out _ _ (hJ.pure hl (by decide) hE (gb_refl _ _) rfl)
    · intro l t w7 hJ hl hd bb hbb K hK
      have hgw := hJ.gb hl (by decide)
      have hE : ∀ p : Nat × Nat, p ∈ ([(2, 1), (3, 2), (5, 4), (6, 3), (6, 5), (7, 0), (8, 6), (8, 7)] : List (Nat × Nat)) → p.1 = 3 → l p.2 = true := by
        intro p hp e
        simp only [List.mem_cons, List.not_mem_nil, or_false] at hp
        rcases hp with rfl | rfl | rfl | rfl | rfl | rfl | rfl | rfl
        · exact absurd e (by decide)
        · exact hd 2 (by kernel_rfl)
        · exact absurd e (by decide)
        · exact absurd e (by decide)
        · exact absurd e (by decide)
        · exact absurd e (by decide)
        · exact absurd e (by decide)
        · exact absurd e (by decide)
      obtain ⟨c0, c1, c2, c3, k0, k1, l0, l1, -, -, -⟩ := HC.out.grown hgw
      have e2 := hJ.val 2 _ rfl (hd 2 (by kernel_rfl))
      simp only [puts, Act.put, List.setIfInBounds_toArray, List.set_cons_zero, List.set_cons_succ] at hbb
      rw [e2] at hbb
      subst hbb
      go_simp
      exact hK.out _ _ (hJ.pure hl (by decide) hE (gb_refl _ _) rfl)
    · intro l t w7 hJ hl hd bb hbb K hK
      have hgw := hJ.gb hl (by decide)
      have hE : ∀ p : Nat × Nat, p ∈ ([(2, 1), (3, 2), (5, 4), (6, 3), (6, 5), (7, 0), (8, 6), (8, 7)] : List (Nat × Nat)) → p.1 = 4 → l p.2 = true := by
        intro p hp e
        simp only [List.mem_cons, List.not_mem_nil, or_false] at hp
        rcases hp with rfl | rfl | rfl | rfl | rfl | rfl | rfl | rfl <;> exact absurd e (by decide)
      simp only [puts, Act.put, List.setIfInBounds_toArray, List.set_cons_zero, List.set_cons_succ] at hbb
      subst hbb
      go_simp
      exact hK.out _ _ (hJ.pure hl (by decide) hE (gb_refl _ _) rfl)
    · intro l t w7 hJ hl hd bb hbb K hK
      have hgw := hJ.gb hl (by decide)
      have hE : ∀ p : Nat × Nat, p ∈ ([(2, 1), (3, 2), (5, 4), (6, 3), (6, 5), (7, 0), (8, 6), (8, 7)] : List (Nat × Nat)) → p.1 = 5 → l p.2 = true := by
        intro p hp e
        simp only [List.mem_cons, List.not_mem_nil, or_false] at hp
        rcases hp with rfl | rfl | rfl | rfl | rfl | rfl | rfl | rfl
        · exact absurd e (by decide)
        · exact absurd e (by decide)
        · exact hd 4 (by kernel_rfl)
        · exact absurd e (by decide)
        · exact absurd e (by decide)
        · exact absurd e (by decide)
        · exact absurd e (by decide)
        · exact absurd e (by decide)
      have e4 := hJ.val 4 _ rfl (hd 4 (by kernel_rfl))
      simp only [puts, Act.put, List.setIfInBounds_toArray, List.set_cons_zero, List.set_cons_succ] at hbb
      rw [e4] at hbb
      subst hbb
      go_simp
      refine (hf2 _ (gb_trans HG.out hgw)).mono ?_
      rintro e w8 ⟨rfl, hg⟩
      exact hK.out _ _ (hJ.pure hl (by decide) hE hg rfl)
    · intro l t w7 hJ hl hd bb hbb K hK
      have hgw := hJ.gb hl (by decide)
      have hE : ∀ p : Nat × Nat, p ∈ ([(2, 1), (3, 2), (5, 4), (6, 3), (6, 5), (7, 0), (8, 6), (8, 7)] : List (Nat × Nat)) → p.1 = 6 → l p.2 = true := by
        intro p hp e
        simp only [List.mem_cons, List.not_mem_nil, or_false] at hp
        rcases hp with rfl | rfl | rfl | rfl | rfl | rfl | rfl | rfl
        · exact absurd e (by decide)
        · exact absurd e (by decide)
        · exact absurd e (by decide)
        · exact hd 3 (by kernel_rfl)
        · exact hd 5 (by kernel_rfl)
        · exact absurd e (by decide)
        · exact absurd e (by decide)
        · exact absurd e (by decide)
      have e3 := hJ.val 3 _ rfl (hd 3 (by kernel_rfl))
      have e5 := hJ.val 5 _ rfl (hd 5 (by kernel_rfl))
      simp only [puts, Act.put, List.setIfInBounds_toArray, List.set_cons_zero, List.set_cons_succ] at hbb
      rw [e3] at hbb
      rw [e5] at hbb
      subst hbb
      go_simp
      refine (intersect_c x0 y0 x1 y1 d0 d1 d2 d3 _).mono ?_
      rintro e w8 ⟨rfl, hg⟩
      rw [isec_ia, Ha.out.1, Ha.out.2.1, Ha.out.2.2.1, Ha.out.2.2.2]
      exact hK.out _ _ (hJ.pure hl (by decide) hE hg rfl)
    · intro l t w7 hJ hl hd bb hbb K hK
      have hgw := hJ.gb hl (by decide)
      have hE : ∀ p : Nat × Nat, p ∈ ([(2, 1), (3, 2), (5, 4), (6, 3), (6, 5), (7, 0), (8, 6), (8, 7)] : List (Nat × Nat)) → p.1 = 7 → l p.2 = true := by
        intro p hp e
        simp only [List.mem_cons, List.not_mem_nil, or_false] at hp
        rcases hp with rfl | rfl | rfl | rfl | rfl | rfl | rfl | rfl
        · exact absurd e (by decide)
        · exact absurd e (by decide)
        · exact absurd e (by decide)
        · exact absurd e (by decide)
        · exact absurd e (by decide)
        · exact hd 0 (by kernel_rfl)
        · exact absurd e (by decide)
        · exact absurd e (by decide)
      have e0 := hJ.val 0 _ rfl (hd 0 (by kernel_rfl))
      simp only [puts, Act.put, List.setIfInBounds_toArray, List.set_cons_zero, List.set_cons_succ] at hbb
      rw [e0] at hbb
      subst hbb
      go_simp
      exact hK.out _ _ (hJ.pure hl (by decide) hE (gb_refl _ _) rfl)
    · intro l t w7 hJ hl hd bb hbb K hK
      have hgw := hJ.gb hl (by decide)
      have hE : ∀ p : Nat × Nat, p ∈ ([(2, 1), (3, 2), (5, 4), (6, 3), (6, 5), (7, 0), (8, 6), (8, 7)] : List (Nat × Nat)) → p.1 = 8 → l p.2 = true := by
        intro p hp e
        simp only [List.mem_cons, List.not_mem_nil, or_false] at hp
        rcases hp with rfl | rfl | rfl | rfl | rfl | rfl | rfl | rfl
        · exact absurd e (by decide)
        · exact absurd e (by decide)
        · exact absurd e (by decide)
        · exact absurd e (by decide)
        · exact absurd e (by decide)
        · exact absurd e (by decide)
        · exact hd 6 (by kernel_rfl)
        · exact hd 7 (by kernel_rfl)
      obtain ⟨c0, c1, c2, c3, k0, k1, l0, l1, fr, fp, fq⟩ := HC.out.grown hgw
      have e6 := hJ.val 6 _ rfl (hd 6 (by kernel_rfl))
      have e7 := hJ.val 7 _ rfl (hd 7 (by kernel_rfl))
      simp only [puts, Act.put, List.setIfInBounds_toArray, List.set_cons_zero, List.set_cons_succ] at hbb
      rw [e6] at hbb
      rw [e7] at hbb
      subst hbb
      go_simp
      exact hK.out undef _ (hJ.last hE rfl (cp_step HG.out hgw hbr HC.out n1 n2 n4 HZ.out HO.out.1 HO.out.2) undef)
  intro l t wc hJ hl
  have hcut := hJ.done (hl 8 (by decide))
  clear hJ hl
  simp only [puts, Act.put, List.setIfInBounds_toArray, List.set_cons_zero, List.set_cons_succ]
  obtain ⟨hg1, hz1, hc1, o0, o1⟩ := hcut
  clear HO HZ HG HC
  have HO := hid (And.intro o0 o1)
  have HZ := hid hz1
  have HG := hid hg1
  have HC := hid hc1
  clear o0 o1 hz1 hg1 hc1
  obtain ⟨wz, hwz⟩ : ∃ wz : World, wz = wc := ⟨_, rfl⟩
  rw [← hwz]
  rw [← hwz] at HO HZ HG HC
  clear hwz wc
  go_upto_region 2 with fail
  refine wp_region_inv (JL wz [some (.pointer (some ⟨br, 0, none⟩)), some (.pointer (some ⟨br, 0, none⟩)), some (.pointer (some ⟨br, 0, none⟩)), some (vR a0 a1 a2 a3), some (.iface ts vs), some (vR s0 s1 s2 s3), some (vP x0 y0), some (.pointer (some ⟨bp, 0, none⟩)), some (.pointer (some ⟨bp, 0, none⟩)), some (vP px py), some (vP (x0 - px) (y0 - py)), some (vR (s0 + (x0 - px)) (s1 + (y0 - py)) (s2 + (x0 - px)) (s3 + (y0 - py))), some (vR b0 b1 b2 b3), some (.pointer (some ⟨br, 0, none⟩)), none] [(2, 1), (3, 2), (5, 4), (8, 7), (9, 8), (10, 6), (10, 9), (11, 5), (11, 10), (12, 3), (12, 11), (13, 0), (14, 12), (14, 13)] 14 (fun wx => w0.grownBy wx none ∧ w.heap.size < wx.heap.size ∧ Cp wx br bp bq b0 b1 b2 b3 px py qx qy ∧ wx.cell? ⟨w.heap.size, 0, none⟩ = some (.int .i64 x0) ∧ wx.cell? ⟨w.heap.size, 1, none⟩ = some (.int .i64 y0))) (fun _ => undef) (by kernel_rfl) (by kernel_rfl) [(0, 27), (1, 28), (2, 29), (3, 30), (4, 31), (5, 32), (6, 33), (7, 34), (8, 35), (9, 36), (10, 37), (11, 38), (12, 39), (13, 40)] (by kernel_rfl) (JL.start (by (repeat (first | exact gb_refl _ _ | assumption | refine gb_drew ?_ | refine gb_drewN ?_ _ | refine gb_alloc ?_ _ | refine gb_setCell ?_ (.inr (by simp <;> omega)) _))) (by kernel_rfl)) ?_ ?_
  · refine Steps'.cons [] (by kernel_rfl) ?_ (Steps'.cons [] (by kernel_rfl) ?_ (Steps'.cons [(1, 28)] (by kernel_rfl) ?_ (Steps'.cons [(2, 29)] (by kernel_rfl) ?_ (Steps'.cons [] (by kernel_rfl) ?_ (Steps'.cons [(4, 31)] (by kernel_rfl) ?_ (Steps'.cons [] (by kernel_rfl) ?_ (Steps'.cons [] (by kernel_rfl) ?_ (Steps'.cons [(7, 34)] (by kernel_rfl) ?_ (Steps'.cons [(8, 35)] (by kernel_rfl) ?_ (Steps'.cons [(6, 33), (9, 36)] (by kernel_rfl) ?_ (Steps'.cons [(5, 32), (10, 37)] (by kernel_rfl) ?_ (Steps'.cons [(3, 30), (11, 38)] (by kernel_rfl) ?_ (Steps'.cons [(0, 27)] (by kernel_rfl) ?_ (Steps'.cons [(12, 39), (13, 40)] (by kernel_rfl) ?_ (Steps'.nil)))))))))))))))
    · intro l t w7 hJ hl hd bb hbb K hK
      have hgw := hJ.gb hl (by decide)
      have hE : ∀ p : Nat × Nat, p ∈ ([(2, 1), (3, 2), (5, 4), (8, 7), (9, 8), (10, 6), (10, 9), (11, 5), (11, 10), (12, 3), (12, 11), (13, 0), (14, 12), (14, 13)] : List (Nat × Nat)) → p.1 = 0 → l p.2 = true := by
        intro p hp e
        simp only [List.mem_cons, List.not_mem_nil, or_false] at hp
        rcases hp with rfl | rfl | rfl | rfl | rfl | rfl | rfl | rfl | rfl | rfl | rfl | rfl | rfl | rfl <;> exact absurd e (by decide)
      simp only [puts, Act.put, List.setIfInBounds_toArray, List.set_cons_zero, List.set_cons_succ] at hbb
      subst hbb
      go_simp
      exact hK.out _ _ (hJ.pure hl (by decide) hE (gb_refl _ _) rfl)
    · intro l t w7 hJ hl hd bb hbb K hK
      have hgw := hJ.gb hl (by decide)
      have hE : ∀ p : Nat × Nat, p ∈ ([(2, 1), (3, 2), (5, 4), (8, 7), (9, 8), (10, 6), (10, 9), (11, 5), (11, 10), (12, 3), (12, 11), (13, 0), (14, 12), (14, 13)] : List (Nat × Nat)) → p.1 = 1 → l p.2 = true := by
        intro p hp e
        simp only [List.mem_cons, List.not_mem_nil, or_false] at hp
        rcases hp with rfl | rfl | rfl | rfl | rfl | rfl | rfl | rfl | rfl | rfl | rfl | rfl | rfl | rfl <;> exact absurd e (by decide)
      simp only [puts, Act.put, List.setIfInBounds_toArray, List.set_cons_zero, List.set_cons_succ] at hbb
      subst hbb
      go_simp
      exact hK.out _ _ (hJ.pure hl (by decide) hE (gb_refl _ _) rfl)
    · intro l t w7 hJ hl hd bb hbb K hK
      have hgw := hJ.gb hl (by decide)
      have hE : ∀ p : Nat × Nat, p ∈ ([(2, 1), (3, 2), (5, 4), (8, 7), (9, 8), (10, 6), (10, 9), (11, 5), (11, 10), (12, 3), (12, 11), (13, 0), (14, 12), (14, 13)] : List (Nat × Nat)) → p.1 = 2 → l p.2 = true := by
        intro p hp e
        simp only [List.mem_cons, List.not_mem_nil, or_false] at hp
        rcases hp with rfl | rfl | rfl | rfl | rfl | rfl | rfl | rfl | rfl | rfl | rfl | rfl | rfl | rfl
        · exact hd 1 (by kernel_rfl)
        · exact absurd e (by decide)
        · exact absurd e (by decide)
        · exact absurd e (by decide)
        · exact absurd e (by decide)
        · exact absurd e (by decide)
        · exact absurd e (by decide)
        · exact absurd e (by decide)
        · exact absurd e (by decide)
        · exact absurd e (by decide)
        · exact absurd e (by decide)
        · exact absurd e (by decide)
        · exact absurd e (by decide)
        · exact absurd e (by decide)
      have e1 := hJ.val 1 _ rfl (hd 1 (by kernel_rfl))
      simp only [puts, Act.put, List.setIfInBounds_toArray, List.set_cons_zero, List.set_cons_succ] at hbb
      rw [e1] at hbb
      subst hbb
      go_simp
      exact hK.out _ _ (hJ.pure hl (by decide) hE (gb_refl _ _) rfl)
    · intro l t w7 hJ hl hd bb hbb K hK
      have hgw := hJ.gb hl (by decide)
      have hE : ∀ p : Nat × Nat, p ∈ ([(2, 1), (3, 2), (5, 4), (8, 7), (9, 8), (10, 6), (10, 9), (11, 5), (11, 10), (12, 3), (12, 11), (13, 0), (14, 12), (14, 13)] : List (Nat × Nat)) → p.1 = 3 → l p.2 = true := by
        intro p hp e
        simp only [List.mem_cons, List.not_mem_nil, or_false] at hp
        rcases hp with rfl | rfl | rfl | rfl | rfl | rfl | rfl | rfl | rfl | rfl | rfl | rfl | rfl | rfl
        · exact absurd e (by decide)
        · exact hd 2 (by kernel_rfl)
        · exact absurd e (by decide)
        · exact absurd e (by decide)
        · exact absurd e (by decide)
        · exact absurd e (by decide)
        · exact absurd e (by decide)
        · exact absurd e (by decide)
        · exact absurd e (by decide)
        · exact absurd e (by decide)
        · exact absurd e (by decide)
        · exact absurd e (by decide)
        · exact absurd e (by decide)
        · exact absurd e (by decide)
      obtain ⟨c0, c1, c2, c3, k0, k1, l0, l1, -, -, -⟩ := HC.out.grown hgw
      have e2 := hJ.val 2 _ rfl (hd 2 (by kernel_rfl))
      simp only [puts, Act.put, List.setIfInBounds_toArray, List.set_cons_zero, List.set_cons_succ] at hbb
      rw [e2] at hbb
      subst hbb
      go_simp
      exact hK.out _ _ (hJ.pure hl (by decide) hE (gb_refl _ _) rfl)
    · intro l t w7 hJ hl hd bb hbb K hK
      have hgw := hJ.gb hl (by decide)
      have hE : ∀ p : Nat × Nat, p ∈ ([(2, 1), (3, 2), (5, 4), (8, 7), (9, 8), (10, 6), (10, 9), (11, 5), (11, 10), (12, 3), (12, 11), (13, 0), (14, 12), (14, 13)] : List (Nat × Nat)) → p.1 = 4 → l p.2 = true := by
        intro p hp e
        simp only [List.mem_cons, List.not_mem_nil, or_false] at hp
        rcases hp with rfl | rfl | rfl | rfl | rfl | rfl | rfl | rfl | rfl | rfl | rfl | rfl | rfl | rfl <;> exact absurd e (by decide)
      simp only [puts, Act.put, List.setIfInBounds_toArray, List.set_cons_zero, List.set_cons_succ] at hbb
      subst hbb
      go_simp
      exact hK.out _ _ (hJ.pure hl (by decide) hE (gb_refl _ _) rfl)
    · intro l t w7 hJ hl hd bb hbb K hK
      have hgw := hJ.gb hl (by decide)
      have hE : ∀ p : Nat × Nat, p ∈ ([(2, 1), (3, 2), (5, 4), (8, 7), (9, 8), (10, 6), (10, 9), (11, 5), (11, 10), (12, 3), (12, 11), (13, 0), (14, 12), (14, 13)] : List (Nat × Nat)) → p.1 = 5 → l p.2 = true := by
        intro p hp e
        simp only [List.mem_cons, List.not_mem_nil, or_false] at hp
        rcases hp with rfl | rfl | rfl | rfl | rfl | rfl | rfl | rfl | rfl | rfl | rfl | rfl | rfl | rfl
        · exact absurd e (by decide)
        · exact absurd e (by decide)
        · exact hd 4 (by kernel_rfl)
        · exact absurd e (by decide)
        · exact absurd e (by decide)
        · exact absurd e (by decide)
        · exact absurd e (by decide)
        · exact absurd e (by decide)
        · exact absurd e (by decide)
        · exact absurd e (by decide)
        · exact absurd e (by decide)
        · exact absurd e (by decide)
        · exact absurd e (by decide)
        · exact absurd e (by decide)
      have e4 := hJ.val 4 _ rfl (hd 4 (by kernel_rfl))
      simp only [puts, Act.put, List.setIfInBounds_toArray, List.set_cons_zero, List.set_cons_succ] at hbb
      rw [e4] at hbb
      subst hbb
      go_simp
      refine (hg2 _ (gb_trans HG.out hgw)).mono ?_
      rintro e w8 ⟨rfl, hg⟩
      exact hK.out _ _ (hJ.pure hl (by decide) hE hg rfl)
    · intro l t w7 hJ hl hd bb hbb K hK
      have hgw := hJ.gb hl (by decide)
      have hE : ∀ p : Nat × Nat, p ∈ ([(2, 1), (3, 2), (5, 4), (8, 7), (9, 8), (10, 6), (10, 9), (11, 5), (11, 10), (12, 3), (12, 11), (13, 0), (14, 12), (14, 13)] : List (Nat × Nat)) → p.1 = 6 → l p.2 = true := by
        intro p hp e
        simp only [List.mem_cons, List.not_mem_nil, or_false] at hp
        rcases hp with rfl | rfl | rfl | rfl | rfl | rfl | rfl | rfl | rfl | rfl | rfl | rfl | rfl | rfl <;> exact absurd e (by decide)
      have o0 := (gb_cell0 hgw HZ.out).trans HO.out.1
      have o1 := (gb_cell0 hgw (p := ⟨w.heap.size, 1, none⟩) HZ.out).trans HO.out.2
      simp only [puts, Act.put, List.setIfInBounds_toArray, List.set_cons_zero, List.set_cons_succ] at hbb
      subst hbb
      go_simp
      exact hK.out _ _ (hJ.pure hl (by decide) hE (gb_refl _ _) rfl)
    · intro l t w7 hJ hl hd bb hbb K hK
      have hgw := hJ.gb hl (by decide)
      have hE : ∀ p : Nat × Nat, p ∈ ([(2, 1), (3, 2), (5, 4), (8, 7), (9, 8), (10, 6), (10, 9), (11, 5), (11, 10), (12, 3), (12, 11), (13, 0), (14, 12), (14, 13)] : List (Nat × Nat)) → p.1 = 7 → l p.2 = true := by
        intro p hp e
        simp only [List.mem_cons, List.not_mem_nil, or_false] at hp
        rcases hp with rfl | rfl | rfl | rfl | rfl | rfl | rfl | rfl | rfl | rfl | rfl | rfl | rfl | rfl <;> exact absurd e (by decide)
      simp only [puts, Act.put, List.setIfInBounds_toArray, List.set_cons_zero, List.set_cons_succ] at hbb
      subst hbb
      go_simp
      exact hK.out _ _ (hJ.pure hl (by decide) hE (gb_refl _ _) rfl)
    · intro l t w7 hJ hl hd bb hbb K hK
      have hgw := hJ.gb hl (by decide)
      have hE : ∀ p : Nat × Nat, p ∈ ([(2, 1), (3, 2), (5, 4), (8, 7), (9, 8), (10, 6), (10, 9), (11, 5), (11, 10), (12, 3), (12, 11), (13, 0), (14, 12), (14, 13)] : List (Nat × Nat)) → p.1 = 8 → l p.2 = true := by
        intro p hp e
        simp only [List.mem_cons, List.not_mem_nil, or_false] at hp
        rcases hp with rfl | rfl | rfl | rfl | rfl | rfl | rfl | rfl | rfl | rfl | rfl | rfl | rfl | rfl
        · exact absurd e (by decide)
        · exact absurd e (by decide)
        · exact absurd e (by decide)
        · exact hd 7 (by kernel_rfl)
        · exact absurd e (by decide)
        · exact absurd e (by decide)
        · exact absurd e (by decide)
        · exact absurd e (by decide)
        · exact absurd e (by decide)
        · exact absurd e (by decide)
        · exact absurd e (by decide)
        · exact absurd e (by decide)
        · exact absurd e (by decide)
        · exact absurd e (by decide)
      have e7 := hJ.val 7 _ rfl (hd 7 (by kernel_rfl))
      simp only [puts, Act.put, List.setIfInBounds_toArray, List.set_cons_zero, List.set_cons_succ] at hbb
      rw [e7] at hbb
      subst hbb
      go_simp
      exact hK.out _ _ (hJ.pure hl (by decide) hE (gb_refl _ _) rfl)
    · intro l t w7 hJ hl hd bb hbb K hK
      have hgw := hJ.gb hl (by decide)
      have hE : ∀ p : Nat × Nat, p ∈ ([(2, 1), (3, 2), (5, 4), (8, 7), (9, 8), (10, 6), (10, 9), (11, 5), (11, 10), (12, 3), (12, 11), (13, 0), (14, 12), (14, 13)] : List (Nat × Nat)) → p.1 = 9 → l p.2 = true := by
        intro p hp e
        simp only [List.mem_cons, List.not_mem_nil, or_false] at hp
        rcases hp with rfl | rfl | rfl | rfl | rfl | rfl | rfl | rfl | rfl | rfl | rfl | rfl | rfl | rfl
        · exact absurd e (by decide)
        · exact absurd e (by decide)
        · exact absurd e (by decide)
        · exact absurd e (by decide)
        · exact hd 8 (by kernel_rfl)
        · exact absurd e (by decide)
        · exact absurd e (by decide)
        · exact absurd e (by decide)
        · exact absurd e (by decide)
        · exact absurd e (by decide)
        · exact absurd e (by decide)
        · exact absurd e (by decide)
        · exact absurd e (by decide)
        · exact absurd e (by decide)
      obtain ⟨c0, c1, c2, c3, k0, k1, l0, l1, -, -, -⟩ := HC.out.grown hgw
      have e8 := hJ.val 8 _ rfl (hd 8 (by kernel_rfl))
      simp only [puts, Act.put, List.setIfInBounds_toArray, List.set_cons_zero, List.set_cons_succ] at hbb
      rw [e8] at hbb
      subst hbb
      go_simp
      exact hK.out _ _ (hJ.pure hl (by decide) hE (gb_refl _ _) rfl)
    · intro l t w7 hJ hl hd bb hbb K hK
      have hgw := hJ.gb hl (by decide)
      have hE : ∀ p : Nat × Nat, p ∈ ([(2, 1), (3, 2), (5, 4), (8, 7), (9, 8), (10, 6), (10, 9), (11, 5), (11, 10), (12, 3), (12, 11), (13, 0), (14, 12), (14, 13)] : List (Nat × Nat)) → p.1 = 10 → l p.2 = true := by
        intro p hp e
        simp only [List.mem_cons, List.not_mem_nil, or_false] at hp
        rcases hp with rfl | rfl | rfl | rfl | rfl | rfl | rfl | rfl | rfl | rfl | rfl | rfl | rfl | rfl
        · exact absurd e (by decide)
        · exact absurd e (by decide)
        · exact absurd e (by decide)
        · exact absurd e (by decide)
        · exact absurd e (by decide)
        · exact hd 6 (by kernel_rfl)
        · exact hd 9 (by kernel_rfl)
        · exact absurd e (by decide)
        · exact absurd e (by decide)
        · exact absurd e (by decide)
        · exact absurd e (by decide)
        · exact absurd e (by decide)
        · exact absurd e (by decide)
        · exact absurd e (by decide)
      have e6 := hJ.val 6 _ rfl (hd 6 (by kernel_rfl))
      have e9 := hJ.val 9 _ rfl (hd 9 (by kernel_rfl))
      simp only [puts, Act.put, List.setIfInBounds_toArray, List.set_cons_zero, List.set_cons_succ] at hbb
      rw [e6] at hbb
      rw [e9] at hbb
      subst hbb
      go_simp
      refine (sub_c x0 y0 px py _ sx0 sy0 spx spy).mono ?_
      rintro e w8 ⟨rfl, hg⟩
      exact hK.out _ _ (hJ.pure hl (by decide) hE hg rfl)
    · intro l t w7 hJ hl hd bb hbb K hK
      have hgw := hJ.gb hl (by decide)
      have hE : ∀ p : Nat × Nat, p ∈ ([(2, 1), (3, 2), (5, 4), (8, 7), (9, 8), (10, 6), (10, 9), (11, 5), (11, 10), (12, 3), (12, 11), (13, 0), (14, 12), (14, 13)] : List (Nat × Nat)) → p.1 = 11 → l p.2 = true := by
        intro p hp e
        simp only [List.mem_cons, List.not_mem_nil, or_false] at hp
        rcases hp with rfl | rfl | rfl | rfl | rfl | rfl | rfl | rfl | rfl | rfl | rfl | rfl | rfl | rfl
        · exact absurd e (by decide)
        · exact absurd e (by decide)
        · exact absurd e (by decide)
        · exact absurd e (by decide)
        · exact absurd e (by decide)
        · exact absurd e (by decide)
        · exact absurd e (by decide)
        · exact hd 5 (by kernel_rfl)
        · exact hd 10 (by kernel_rfl)
        · exact absurd e (by decide)
        · exact absurd e (by decide)
        · exact absurd e (by decide)
        · exact absurd e (by decide)
        · exact absurd e (by decide)
      have e5 := hJ.val 5 _ rfl (hd 5 (by kernel_rfl))
      have e10 := hJ.val 10 _ rfl (hd 10 (by kernel_rfl))
      simp only [puts, Act.put, List.setIfInBounds_toArray, List.set_cons_zero, List.set_cons_succ] at hbb
      rw [e5] at hbb
      rw [e10] at hbb
      subst hbb
      go_simp
      refine (add_c s0 s1 s2 s3 (x0 - px) (y0 - py) _ ss0 ss1 ss2 ss3 sd0 sd1).mono ?_
      rintro e w8 ⟨rfl, hg⟩
      exact hK.out _ _ (hJ.pure hl (by decide) hE hg rfl)
    · intro l t w7 hJ hl hd bb hbb K hK
      have hgw := hJ.gb hl (by decide)
      have hE : ∀ p : Nat × Nat, p ∈ ([(2, 1), (3, 2), (5, 4), (8, 7), (9, 8), (10, 6), (10, 9), (11, 5), (11, 10), (12, 3), (12, 11), (13, 0), (14, 12), (14, 13)] : List (Nat × Nat)) → p.1 = 12 → l p.2 = true := by
        intro p hp e
        simp only [List.mem_cons, List.not_mem_nil, or_false] at hp
        rcases hp with rfl | rfl | rfl | rfl | rfl | rfl | rfl | rfl | rfl | rfl | rfl | rfl | rfl | rfl
        · exact absurd e (by decide)
        · exact absurd e (by decide)
        · exact absurd e (by decide)
        · exact absurd e (by decide)
        · exact absurd e (by decide)
        · exact absurd e (by decide)
        · exact absurd e (by decide)
        · exact absurd e (by decide)
        · exact absurd e (by decide)
        · exact hd 3 (by kernel_rfl)
        · exact hd 11 (by kernel_rfl)
        · exact absurd e (by decide)
        · exact absurd e (by decide)
        · exact absurd e (by decide)
      have e3 := hJ.val 3 _ rfl (hd 3 (by kernel_rfl))
      have e11 := hJ.val 11 _ rfl (hd 11 (by kernel_rfl))
      simp only [puts, Act.put, List.setIfInBounds_toArray, List.set_cons_zero, List.set_cons_succ] at hbb
      rw [e3] at hbb
      rw [e11] at hbb
      subst hbb
      go_simp
      refine (intersect_c a0 a1 a2 a3 (s0 + (x0 - px)) (s1 + (y0 - py)) (s2 + (x0 - px)) (s3 + (y0 - py)) _).mono ?_
      rintro e w8 ⟨rfl, hg⟩
      rw [isec_ia, Hb.out.1, Hb.out.2.1, Hb.out.2.2.1, Hb.out.2.2.2]
      exact hK.out _ _ (hJ.pure hl (by decide) hE hg rfl)
    · intro l t w7 hJ hl hd bb hbb K hK
      have hgw := hJ.gb hl (by decide)
      have hE : ∀ p : Nat × Nat, p ∈ ([(2, 1), (3, 2), (5, 4), (8, 7), (9, 8), (10, 6), (10, 9), (11, 5), (11, 10), (12, 3), (12, 11), (13, 0), (14, 12), (14, 13)] : List (Nat × Nat)) → p.1 = 13 → l p.2 = true := by
        intro p hp e
        simp only [List.mem_cons, List.not_mem_nil, or_false] at hp
        rcases hp with rfl | rfl | rfl | rfl | rfl | rfl | rfl | rfl | rfl | rfl | rfl | rfl | rfl | rfl
        · exact absurd e (by decide)
        · exact absurd e (by decide)
        · exact absurd e (by decide)
        · exact absurd e (by decide)
        · exact absurd e (by decide)
        · exact absurd e (by decide)
        · exact absurd e (by decide)
        · exact absurd e (by decide)
        · exact absurd e (by decide)
        · exact absurd e (by decide)
        · exact absurd e (by decide)
        · exact hd 0 (by kernel_rfl)
        · exact absurd e (by decide)
        · exact absurd e (by decide)
      have e0 := hJ.val 0 _ rfl (hd 0 (by kernel_rfl))
      simp only [puts, Act.put, List.setIfInBounds_toArray, List.set_cons_zero, List.set_cons_succ] at hbb
      rw [e0] at hbb
      subst hbb
      go_simp
      exact hK.out _ _ (hJ.pure hl (by decide) hE (gb_refl _ _) rfl)
    · intro l t w7 hJ hl hd bb hbb K hK
      have hgw := hJ.gb hl (by decide)
      have hE : ∀ p : Nat × Nat, p ∈ ([(2, 1), (3, 2), (5, 4), (8, 7), (9, 8), (10, 6), (10, 9), (11, 5), (11, 10), (12, 3), (12, 11), (13, 0), (14, 12), (14, 13)] : List (Nat × Nat)) → p.1 = 14 → l p.2 = true := by
        intro p hp e
        simp only [List.mem_cons, List.not_mem_nil, or_false] at hp
        rcases hp with rfl | rfl | rfl | rfl | rfl | rfl | rfl | rfl | rfl | rfl | rfl | rfl | rfl | rfl
        · exact absurd e (by decide)
        · exact absurd e (by decide)
        · exact absurd e (by decide)
        · exact absurd e (by decide)
        · exact absurd e (by decide)
        · exact absurd e (by decide)
        · exact absurd e (by decide)
        · exact absurd e (by decide)
        · exact absurd e (by decide)
        · exact absurd e (by decide)
        · exact absurd e (by decide)
        · exact absurd e (by decide)
        · exact hd 12 (by kernel_rfl)
        · exact hd 13 (by kernel_rfl)
      obtain ⟨c0, c1, c2, c3, k0, k1, l0, l1, fr, fp, fq⟩ := HC.out.grown hgw
      have e12 := hJ.val 12 _ rfl (hd 12 (by kernel_rfl))
      have e13 := hJ.val 13 _ rfl (hd 13 (by kernel_rfl))
      simp only [puts, Act.put, List.setIfInBounds_toArray, List.set_cons_zero, List.set_cons_succ] at hbb
      rw [e12] at hbb
      rw [e13] at hbb
      subst hbb
      go_simp
      exact hK.out undef _ (hJ.last hE rfl (cp_step HG.out hgw hbr HC.out n1 n2 n4 HZ.out HO.out.1 HO.out.2) undef)
  intro l t wc hJ hl
  have hcut := hJ.done (hl 14 (by decide))
  clear hJ hl
  simp only [puts, Act.put, List.setIfInBounds_toArray, List.set_cons_zero, List.set_cons_succ]
  obtain ⟨hg2', hz2, ⟨c0'', c1'', c2'', c3'', p0', p1', q0', q1', fr', fp', fq'⟩, o0', o1'⟩ := hcut
  clear HO HZ HG HC
  unfold sm at *
  have r1 : IntKind.i64.wrap (b0 - x0) = b0 - x0 := IntWalk.i64_in _ (by omega)
  have r2 : IntKind.i64.wrap (b1 - y0) = b1 - y0 := IntWalk.i64_in _ (by omega)
  go_wp2
  go_quiet (fail)
  go_wp2
  go_quiet (fail)
  clear r1 r2
  have lr : br < wc.heap.size := World.block_lt_of_cell? wc _ c0''
  by_cases g1 : b0 - x0 = 0
  · by_cases g2 : b1 - y0 = 0
    · go_wp2
      refine bodyPost_ret (v := .tuple #[]) (by simp [results, Tryz.results48]) rfl ⟨rfl, gb_drewN hg2' _, ?_⟩
      unfold Cp; rw [g1, g2]; simp only [Int.add_zero]
      exact ⟨c0'', c1'', c2'', c3'', p0', p1', q0', q1', fr', fp', fq'⟩
    · go_wp2
      refine bodyPost_end (v := .tuple #[]) (by simp [results, Tryz.results48]) rfl ⟨rfl, ?_, ?_⟩
      · (repeat (first | exact hg2' | refine gb_drewN ?_ _ | (refine gb_setCell ?_ (.inr (by assumption)) _)))
      exact ⟨by go_simp, by go_simp, by go_simp, by go_simp, by go_simp, by go_simp, by go_simp, by go_simp, by go_simp, by go_simp, by go_simp⟩
  · go_wp2
    refine bodyPost_end (v := .tuple #[]) (by simp [results, Tryz.results48]) rfl ⟨rfl, ?_, ?_⟩
    · (repeat (first | exact hg2' | refine gb_drewN ?_ _ | (refine gb_setCell ?_ (.inr (by assumption)) _)))
    exact ⟨by go_simp, by go_simp, by go_simp, by go_simp, by go_simp, by go_simp, by go_simp, by go_simp, by go_simp, by go_simp, by go_simp⟩
end Go.Proofs.YtgjpohmjkhgpfaaGreat

namespace Go.Proofs.YtgjpohmjkhgpfaaGreat
open Go.RowKit

/-- clip, without a mask: what is asked, and the cut rectangle b with the points p and q -/
def Cl0 (x0 y0 x1 y1 px py qx qy d0 d1 d2 d3 s0 s1 s2 s3 b0 b1 b2 b3 p0 p1 q0 q1 : Int) : Prop :=
  (sm x0 ∧ sm y0 ∧ sm px ∧ sm py ∧ sm qx ∧ sm qy ∧ sm s0 ∧ sm s1 ∧ sm s2 ∧ sm s3 ∧ sm (x0 - px) ∧ sm (y0 - py) ∧ sm b0 ∧ sm b1) ∧
  (ia 0 (ia 0 x0 y0 x1 y1 d0 d1 d2 d3) (ia 1 x0 y0 x1 y1 d0 d1 d2 d3) (ia 2 x0 y0 x1 y1 d0 d1 d2 d3) (ia 3 x0 y0 x1 y1 d0 d1 d2 d3) (s0 + (x0 - px)) (s1 + (y0 - py)) (s2 + (x0 - px)) (s3 + (y0 - py)) = b0 ∧
   ia 1 (ia 0 x0 y0 x1 y1 d0 d1 d2 d3) (ia 1 x0 y0 x1 y1 d0 d1 d2 d3) (ia 2 x0 y0 x1 y1 d0 d1 d2 d3) (ia 3 x0 y0 x1 y1 d0 d1 d2 d3) (s0 + (x0 - px)) (s1 + (y0 - py)) (s2 + (x0 - px)) (s3 + (y0 - py)) = b1 ∧
   ia 2 (ia 0 x0 y0 x1 y1 d0 d1 d2 d3) (ia 1 x0 y0 x1 y1 d0 d1 d2 d3) (ia 2 x0 y0 x1 y1 d0 d1 d2 d3) (ia 3 x0 y0 x1 y1 d0 d1 d2 d3) (s0 + (x0 - px)) (s1 + (y0 - py)) (s2 + (x0 - px)) (s3 + (y0 - py)) = b2 ∧
   ia 3 (ia 0 x0 y0 x1 y1 d0 d1 d2 d3) (ia 1 x0 y0 x1 y1 d0 d1 d2 d3) (ia 2 x0 y0 x1 y1 d0 d1 d2 d3) (ia 3 x0 y0 x1 y1 d0 d1 d2 d3) (s0 + (x0 - px)) (s1 + (y0 - py)) (s2 + (x0 - px)) (s3 + (y0 - py)) = b3) ∧
  (px + (b0 - x0) = p0 ∧ py + (b1 - y0) = p1 ∧ qx + (b0 - x0) = q0 ∧ qy + (b1 - y0) = q1)
theorem clip0_k {w0 w : World} {br bp bq : Nat} {td ts : TypeId} {vd vs : Value} {x0 y0 x1 y1 px py qx qy d0 d1 d2 d3 s0 s1 s2 s3 b0 b1 b2 b3 p0 p1 q0 q1 : Int}
    (hC : Cl0 x0 y0 x1 y1 px py qx qy d0 d1 d2 d3 s0 s1 s2 s3 b0 b1 b2 b3 p0 p1 q0 q1)
    (hg0 : w0.grownBy w none) (hbr : w0.heap.size ≤ br) (hbp : w0.heap.size ≤ bp) (hbq : w0.heap.size ≤ bq) (n1 : br ≠ bp) (n2 : br ≠ bq) (n3 : bp ≠ bq)
    (hd : Bd w0 td vd d0 d1 d2 d3) (hs : Bd w0 ts vs s0 s1 s2 s3) (hc : Cp w br bp bq x0 y0 x1 y1 px py qx qy) :
    Calls Tryz.prog 48 #[.iface td vd, .pointer (some ⟨br, 0, none⟩), .iface ts vs, .pointer (some ⟨bp, 0, none⟩), .nilIface, .pointer (some ⟨bq, 0, none⟩)] w fun e w' =>
      e = .returned (.tuple #[]) ∧ w0.grownBy w' none ∧ Cp w' br bp bq b0 b1 b2 b3 p0 p1 q0 q1 := by
  obtain ⟨⟨m1, m2, m3, m4, m5, m6, m7, m8, m9, m10, m11, m12, m13, m14⟩, ⟨e0, e1, e2, e3⟩, rfl, rfl, rfl, rfl⟩ := hC
  exact clip0_c hg0 hbr hbp hbq n1 n2 n3 hd hs hc m1 m2 m3 m4 m5 m6 m7 m8 m9 m10 m11 m12 rfl rfl rfl rfl e0 e1 e2 e3 m13 m14
theorem rct_ne {b0 b1 b2 b3 dx0 dy0 : Int} {rx ry xe ye h wd : Nat} (HR : Rct b0 b1 b2 b3 dx0 dy0 rx ry xe ye h wd) : emp b0 b1 b2 b3 = false := by
  obtain ⟨e1, e2, e3, e4, l1, l2, l3, l4⟩ := HR
  unfold emp; simp; omega
theorem drawn_of {w w2 w' : World} {pd k h wd rx ry xe ye : Nat} {F D : Nat → Nat → Nat → Int} {e : Ending} (hg : w.grownBy w2 none) (h1 : Drawn w2 pd k h wd rx ry xe ye F D e w') : Drawn w pd k h wd rx ry xe ye F D e w' :=
  ⟨h1.1, gb_trans (gb_weak hg _) h1.2.1, h1.2.2⟩
/-- clip has been called: the blocks of r, sp and mp are the first three new ones -/
theorem cp_start (w : World) (x0 y0 x1 y1 px py qx qy : Int) : Cp (((w.alloc (.cells #[.int .i64 x0, .int .i64 y0, .int .i64 x1, .int .i64 y1] 78)).alloc (.cells #[.int .i64 px, .int .i64 py] 76)).alloc (.cells #[.int .i64 qx, .int .i64 qy] 76))
    w.heap.size (w.heap.size + 1) (w.heap.size + 2) x0 y0 x1 y1 px py qx qy :=
  ⟨by go_simp, by go_simp, by go_simp, by go_simp, by go_simp, by go_simp, by go_simp, by go_simp, fun k => by go_simp, fun k => by go_simp, fun k => by go_simp⟩
end Go.Proofs.YtgjpohmjkhgpfaaGreat

namespace Go.Proofs.YtgjpohmjkhgpfaaGreat
open Go.RowKit

theorem emp_t {a b c d : Int} : emp a b c d = true ↔ (c ≤ a ∨ d ≤ b) := by unfold emp; simp
theorem emp_f {a b c d : Int} : emp a b c d = false ↔ (a < c ∧ b < d) := by unfold emp; simp
theorem ia_t {x0 y0 x1 y1 u0 v0 u1 v1 : Int} (h : emp (max x0 u0) (max y0 v0) (min x1 u1) (min y1 v1) = true) (i : Nat) : ia i x0 y0 x1 y1 u0 v0 u1 v1 = 0 := by
  unfold ia; rw [hi2_eq, hi2_eq, lo2_eq, lo2_eq, h]; rfl
theorem ia_f {x0 y0 x1 y1 u0 v0 u1 v1 : Int} (h : emp (max x0 u0) (max y0 v0) (min x1 u1) (min y1 v1) = false) :
    ia 0 x0 y0 x1 y1 u0 v0 u1 v1 = max x0 u0 ∧ ia 1 x0 y0 x1 y1 u0 v0 u1 v1 = max y0 v0 ∧ ia 2 x0 y0 x1 y1 u0 v0 u1 v1 = min x1 u1 ∧ ia 3 x0 y0 x1 y1 u0 v0 u1 v1 = min y1 v1 := by
  refine ⟨?_, ?_, ?_, ?_⟩ <;> (unfold ia; simp only [hi2_eq, lo2_eq, h, cond_false])
/-- the pixel (r, c) of the destination is drawn -/
def In0 (x0 y0 x1 y1 px py dx0 dy0 sx0 sy0 : Int) (sh sw r c : Nat) : Prop :=
  (x0 ≤ dx0 + c ∧ dx0 + c < x1 ∧ y0 ≤ dy0 + r ∧ dy0 + r < y1) ∧ sx0 ≤ dx0 + c + (px - x0) ∧ dx0 + c + (px - x0) < sx0 + sw ∧ sy0 ≤ dy0 + r + (py - y0) ∧ dy0 + r + (py - y0) < sy0 + sh
set_option maxHeartbeats 2000000 in
theorem cut2 {x0 y0 x1 y1 d0 d1 d2 d3 s0 s1 s2 s3 b0 b1 b2 b3 : Int}
    (h0 : ia 0 (ia 0 x0 y0 x1 y1 d0 d1 d2 d3) (ia 1 x0 y0 x1 y1 d0 d1 d2 d3) (ia 2 x0 y0 x1 y1 d0 d1 d2 d3) (ia 3 x0 y0 x1 y1 d0 d1 d2 d3) s0 s1 s2 s3 = b0)
    (h1 : ia 1 (ia 0 x0 y0 x1 y1 d0 d1 d2 d3) (ia 1 x0 y0 x1 y1 d0 d1 d2 d3) (ia 2 x0 y0 x1 y1 d0 d1 d2 d3) (ia 3 x0 y0 x1 y1 d0 d1 d2 d3) s0 s1 s2 s3 = b1)
    (h2 : ia 2 (ia 0 x0 y0 x1 y1 d0 d1 d2 d3) (ia 1 x0 y0 x1 y1 d0 d1 d2 d3) (ia 2 x0 y0 x1 y1 d0 d1 d2 d3) (ia 3 x0 y0 x1 y1 d0 d1 d2 d3) s0 s1 s2 s3 = b2)
    (h3 : ia 3 (ia 0 x0 y0 x1 y1 d0 d1 d2 d3) (ia 1 x0 y0 x1 y1 d0 d1 d2 d3) (ia 2 x0 y0 x1 y1 d0 d1 d2 d3) (ia 3 x0 y0 x1 y1 d0 d1 d2 d3) s0 s1 s2 s3 = b3) :
    (emp b0 b1 b2 b3 = false → b0 = max (max x0 d0) s0 ∧ b1 = max (max y0 d1) s1 ∧ b2 = min (min x1 d2) s2 ∧ b3 = min (min y1 d3) s3) ∧
    (emp b0 b1 b2 b3 = true → min (min x1 d2) s2 ≤ max (max x0 d0) s0 ∨ min (min y1 d3) s3 ≤ max (max y0 d1) s1) := by
  cases e1 : emp (max x0 d0) (max y0 d1) (min x1 d2) (min y1 d3)
  · obtain ⟨a0, a1, a2, a3⟩ := ia_f e1
    rw [a0, a1, a2, a3] at h0 h1 h2 h3
    cases e2 : emp (max (max x0 d0) s0) (max (max y0 d1) s1) (min (min x1 d2) s2) (min (min y1 d3) s3)
    · obtain ⟨k0, k1, k2, k3⟩ := ia_f e2
      rw [k0] at h0; rw [k1] at h1; rw [k2] at h2; rw [k3] at h3
      subst h0 h1 h2 h3
      exact ⟨fun _ => ⟨rfl, rfl, rfl, rfl⟩, fun h => by rw [e2] at h; cases h⟩
    · rw [ia_t e2] at h0 h1 h2 h3
      subst h0 h1 h2 h3
      exact ⟨fun h => by rw [emp_f] at h; omega, fun _ => emp_t.1 e2⟩
  · rw [ia_t e1, ia_t e1, ia_t e1, ia_t e1] at h0 h1 h2 h3
    have e2 : emp (max 0 s0) (max 0 s1) (min 0 s2) (min 0 s3) = true := emp_t.2 (by omega)
    rw [ia_t e2] at h0 h1 h2 h3
    subst h0 h1 h2 h3
    have e3 := emp_t.1 e1
    exact ⟨fun h => by rw [emp_f] at h; omega, fun _ => by omega⟩

set_option maxHeartbeats 2000000 in
theorem cl0_geo {x0 y0 x1 y1 px py qx qy dx0 dy0 sx0 sy0 b0 b1 b2 b3 p0 p1 q0 q1 : Int} {dh dw sh sw : Nat}
    (H : Cl0 x0 y0 x1 y1 px py qx qy dx0 dy0 (dx0 + dw) (dy0 + dh) sx0 sy0 (sx0 + sw) (sy0 + sh) b0 b1 b2 b3 p0 p1 q0 q1) (hE : emp b0 b1 b2 b3 = false) :
    ∃ rx ry xe ye sx sy : Nat, Rct b0 b1 b2 b3 dx0 dy0 rx ry xe ye dh dw ∧ Plc p0 p1 sx0 sy0 sx sy rx ry xe ye sh sw ∧
      (∀ r c : Nat, r < dh → c < dw → (inR rx xe ry ye r c ↔ In0 x0 y0 x1 y1 px py dx0 dy0 sx0 sy0 sh sw r c)) ∧
      (∀ r c : Nat, inR rx xe ry ye r c → ((sy + (r - ry) : Nat) : Int) = dy0 + r + (py - y0) - sy0 ∧ ((sx + (c - rx) : Nat) : Int) = dx0 + c + (px - x0) - sx0) := by
  obtain ⟨-, ⟨h0, h1, h2, h3⟩, f1, f2, -, -⟩ := H
  obtain ⟨g0, g1, g2, g3⟩ := (cut2 h0 h1 h2 h3).1 hE
  obtain ⟨l1, l2⟩ := emp_f.1 hE
  clear h0 h1 h2 h3 hE
  have k0 : ∀ X : Int, b0 ≤ X ↔ (x0 ≤ X ∧ dx0 ≤ X ∧ sx0 + (x0 - px) ≤ X) := fun X => by rw [g0]; omega
  have k1 : ∀ X : Int, b1 ≤ X ↔ (y0 ≤ X ∧ dy0 ≤ X ∧ sy0 + (y0 - py) ≤ X) := fun X => by rw [g1]; omega
  have k2 : ∀ X : Int, X < b2 ↔ (X < x1 ∧ X < dx0 + dw ∧ X < sx0 + sw + (x0 - px)) := fun X => by rw [g2]; omega
  have k3 : ∀ X : Int, X < b3 ↔ (X < y1 ∧ X < dy0 + dh ∧ X < sy0 + sh + (y0 - py)) := fun X => by rw [g3]; omega
  clear g0 g1 g2 g3
  have a0 := (k0 b0).1 (Int.le_refl _)
  have a1 := (k1 b1).1 (Int.le_refl _)
  have a2 := (k2 (b2 - 1)).1 (by omega)
  have a3 := (k3 (b3 - 1)).1 (by omega)
  obtain ⟨rx, e0⟩ := Int.eq_ofNat_of_zero_le (show 0 ≤ b0 - dx0 by omega)
  obtain ⟨ry, e1⟩ := Int.eq_ofNat_of_zero_le (show 0 ≤ b1 - dy0 by omega)
  obtain ⟨xe, e2⟩ := Int.eq_ofNat_of_zero_le (show 0 ≤ b2 - dx0 by omega)
  obtain ⟨ye, e3⟩ := Int.eq_ofNat_of_zero_le (show 0 ≤ b3 - dy0 by omega)
  obtain ⟨sx, e4⟩ := Int.eq_ofNat_of_zero_le (show 0 ≤ p0 - sx0 by omega)
  obtain ⟨sy, e5⟩ := Int.eq_ofNat_of_zero_le (show 0 ≤ p1 - sy0 by omega)
  refine ⟨rx, ry, xe, ye, sx, sy, ⟨e0, e1, e2, e3, by omega, by omega, by omega, by omega⟩, ⟨e4, e5, by omega, by omega⟩, ?_, ?_⟩
  · intro r c hr hc
    have t0 := k0 (dx0 + c); have t1 := k1 (dy0 + r); have t2 := k2 (dx0 + c); have t3 := k3 (dy0 + r)
    clear k0 k1 k2 k3 a0 a1 a2 a3
    constructor
    · rintro ⟨i1, i2, i3, i4⟩
      have j0 := t0.1 (by omega); have j1 := t1.1 (by omega); have j2 := t2.1 (by omega); have j3 := t3.1 (by omega)
      exact ⟨⟨j0.1, j2.1, j1.1, j3.1⟩, by omega, by omega, by omega, by omega⟩
    · rintro ⟨⟨i1, i2, i3, i4⟩, i5, i6, i7, i8⟩
      have j0 := t0.2 ⟨i1, by omega, by omega⟩; have j1 := t1.2 ⟨i3, by omega, by omega⟩; have j2 := t2.2 ⟨i2, by omega, by omega⟩; have j3 := t3.2 ⟨i4, by omega, by omega⟩
      exact ⟨by omega, by omega, by omega, by omega⟩
  · rintro r c ⟨i1, i2, i3, i4⟩
    clear k0 k1 k2 k3 a0 a1 a2 a3
    constructor <;> omega
set_option maxHeartbeats 2000000 in
theorem cl0_emp {x0 y0 x1 y1 px py qx qy dx0 dy0 sx0 sy0 b0 b1 b2 b3 p0 p1 q0 q1 : Int} {dh dw sh sw : Nat}
    (H : Cl0 x0 y0 x1 y1 px py qx qy dx0 dy0 (dx0 + dw) (dy0 + dh) sx0 sy0 (sx0 + sw) (sy0 + sh) b0 b1 b2 b3 p0 p1 q0 q1) (hE : emp b0 b1 b2 b3 = true) :
    ∀ r c : Nat, r < dh → c < dw → ¬ In0 x0 y0 x1 y1 px py dx0 dy0 sx0 sy0 sh sw r c := by
  obtain ⟨-, ⟨h0, h1, h2, h3⟩, f1, f2, -, -⟩ := H
  have := (cut2 h0 h1 h2 h3).2 hE
  intro r c hr hc hI
  unfold In0 at hI
  omega
set_option maxHeartbeats 2000000 in
/-- there is a cut rectangle, whatever the numbers, if they are small -/
theorem cl0_ex {x0 y0 x1 y1 px py qx qy d0 d1 d2 d3 s0 s1 s2 s3 : Int} (m1 : sm x0) (m2 : sm y0) (m3 : sm px) (m4 : sm py) (m5 : sm qx) (m6 : sm qy) (m7 : sm s0) (m8 : sm s1) (m9 : sm s2) (m10 : sm s3)
    (m11 : sm (x0 - px)) (m12 : sm (y0 - py)) (m13 : -5000 ≤ d0 ∧ d0 ≤ 5000) (m14 : -5000 ≤ d1 ∧ d1 ≤ 5000) (m15 : -5000 ≤ d2 ∧ d2 ≤ 5000) (m16 : -5000 ≤ d3 ∧ d3 ≤ 5000) :
    ∃ b0 b1 b2 b3 p0 p1 q0 q1, Cl0 x0 y0 x1 y1 px py qx qy d0 d1 d2 d3 s0 s1 s2 s3 b0 b1 b2 b3 p0 p1 q0 q1 := by
  refine ⟨_, _, _, _, _, _, _, _, ⟨m1, m2, m3, m4, m5, m6, m7, m8, m9, m10, m11, m12, ?_, ?_⟩, ⟨rfl, rfl, rfl, rfl⟩, ⟨rfl, rfl, rfl, rfl⟩⟩
  · obtain ⟨b0, h0⟩ : ∃ b0, ia 0 (ia 0 x0 y0 x1 y1 d0 d1 d2 d3) (ia 1 x0 y0 x1 y1 d0 d1 d2 d3) (ia 2 x0 y0 x1 y1 d0 d1 d2 d3) (ia 3 x0 y0 x1 y1 d0 d1 d2 d3) (s0 + (x0 - px)) (s1 + (y0 - py)) (s2 + (x0 - px)) (s3 + (y0 - py)) = b0 := ⟨_, rfl⟩
    rw [h0]
    cases e2 : emp (max (ia 0 x0 y0 x1 y1 d0 d1 d2 d3) (s0 + (x0 - px))) (max (ia 1 x0 y0 x1 y1 d0 d1 d2 d3) (s1 + (y0 - py))) (min (ia 2 x0 y0 x1 y1 d0 d1 d2 d3) (s2 + (x0 - px))) (min (ia 3 x0 y0 x1 y1 d0 d1 d2 d3) (s3 + (y0 - py)))
    · rw [(ia_f e2).1] at h0
      cases e1 : emp (max x0 d0) (max y0 d1) (min x1 d2) (min y1 d3)
      · obtain ⟨a0, a1, a2, a3⟩ := ia_f e1
        rw [emp_f, a0, a1, a2, a3] at e2; rw [a0] at h0; rw [emp_f] at e1
        unfold sm at *; omega
      · rw [ia_t e1, ia_t e1, ia_t e1, ia_t e1, emp_f] at e2; rw [ia_t e1] at h0
        unfold sm at *; omega
    · rw [ia_t e2] at h0; subst h0; unfold sm; omega
  · obtain ⟨b0, h0⟩ : ∃ b0, ia 1 (ia 0 x0 y0 x1 y1 d0 d1 d2 d3) (ia 1 x0 y0 x1 y1 d0 d1 d2 d3) (ia 2 x0 y0 x1 y1 d0 d1 d2 d3) (ia 3 x0 y0 x1 y1 d0 d1 d2 d3) (s0 + (x0 - px)) (s1 + (y0 - py)) (s2 + (x0 - px)) (s3 + (y0 - py)) = b0 := ⟨_, rfl⟩
    rw [h0]
    cases e2 : emp (max (ia 0 x0 y0 x1 y1 d0 d1 d2 d3) (s0 + (x0 - px))) (max (ia 1 x0 y0 x1 y1 d0 d1 d2 d3) (s1 + (y0 - py))) (min (ia 2 x0 y0 x1 y1 d0 d1 d2 d3) (s2 + (x0 - px))) (min (ia 3 x0 y0 x1 y1 d0 d1 d2 d3) (s3 + (y0 - py)))
    · rw [(ia_f e2).2.1] at h0
      cases e1 : emp (max x0 d0) (max y0 d1) (min x1 d2) (min y1 d3)
      · obtain ⟨a0, a1, a2, a3⟩ := ia_f e1
        rw [emp_f, a0, a1, a2, a3] at e2; rw [a1] at h0; rw [emp_f] at e1
        unfold sm at *; omega
      · rw [ia_t e1, ia_t e1, ia_t e1, ia_t e1, emp_f] at e2; rw [ia_t e1] at h0
        unfold sm at *; omega
    · rw [ia_t e2] at h0; subst h0; unfold sm; omega
end Go.Proofs.YtgjpohmjkhgpfaaGreat

namespace Go.Proofs.YtgjpohmjkhgpfaaGreat
open Go.RowKit

theorem run_max2 (a b : Int) (ts : Array TypeId) (t : TypeId) (w : World) : (Builtin.max_ ts t #[.int .i64 a, .int .i64 b]).run Tryz.prog w = .ok (.int .i64 (hi2 a b)) w := by
  unfold hi2
  by_cases h : a < b <;> simp [Builtin.max_, Builtin.max2, h]
theorem run_min2 (a b : Int) (ts : Array TypeId) (t : TypeId) (w : World) : (Builtin.min_ ts t #[.int .i64 a, .int .i64 b]).run Tryz.prog w = .ok (.int .i64 (lo2 a b)) w := by
  unfold lo2
  by_cases h : b < a <;> simp [Builtin.min_, Builtin.min2, h]
set_option maxRecDepth 100000 in
set_option maxHeartbeats 2000000 in
theorem sempty_c (x0 y0 x1 y1 : Int) (w : World) :
    Calls Tryz.prog 22 #[vR x0 y0 x1 y1] w fun e w' => e = .returned (.bool (emp x0 y0 x1 y1)) ∧ w.alloc (.cells #[.int .i64 x0, .int .i64 y0, .int .i64 x1, .int .i64 y1] 28) = w' := by
  by_cases h : x1 ≤ x0
  · go_enter Tryz.func22, Tryz.ntmps22
    go_wp2
    go_ret
    exact ⟨by simp [emp, h], rfl⟩
  · by_cases h2 : y1 ≤ y0
    · go_enter Tryz.func22, Tryz.ntmps22
      go_wp2
      go_ret
      exact ⟨by simp [emp, h, h2], rfl⟩
    · go_enter Tryz.func22, Tryz.ntmps22
      go_wp2
      go_ret
      exact ⟨by simp [emp, h, h2], rfl⟩
set_option maxRecDepth 100000 in
set_option maxHeartbeats 2000000 in
theorem scommon_c (x0 y0 x1 y1 u0 v0 u1 v1 : Int) (w : World) :
    Calls Tryz.prog 26 #[vR x0 y0 x1 y1, vR u0 v0 u1 v1] w fun e w' => e = .returned (isec x0 y0 x1 y1 u0 v0 u1 v1) ∧ w.grownBy w' none := by
  have hmx := fun a b ts t w => run_max2 a b ts t w
  have hmn := fun a b ts t w => run_min2 a b ts t w
  go_enter Tryz.func26, Tryz.ntmps26
  go_wp2_with (go_at_call 22; refine (sempty_c _ _ _ _ _).mono ?_; rintro e w' ⟨rfl, rfl⟩)
  · rename_i h
    refine bodyPost_ret (v := isec x0 y0 x1 y1 u0 v0 u1 v1) ?_ rfl ⟨rfl, ?_⟩
    · unfold isec; rw [h]; simp [results, Tryz.results26, go_sem]
    · (repeat (first | exact gb_refl _ _ | refine gb_alloc ?_ _ | refine gb_setCell ?_ (.inr (by simp <;> omega)) _))
  · rename_i h
    refine bodyPost_ret (v := isec x0 y0 x1 y1 u0 v0 u1 v1) ?_ rfl ⟨rfl, ?_⟩
    · unfold isec; rw [h]; simp [results, Tryz.results26, go_sem]
    · (repeat (first | exact gb_refl _ _ | refine gb_alloc ?_ _ | refine gb_setCell ?_ (.inr (by simp <;> omega)) _))
set_option maxRecDepth 100000 in
set_option maxHeartbeats 2000000 in
theorem smoved_c (x0 y0 x1 y1 x y : Int) (w : World) (h0 : sm x0) (h1 : sm y0) (h2 : sm x1) (h3 : sm y1) (h4 : sm x) (h5 : sm y) :
    Calls Tryz.prog 31 #[vR x0 y0 x1 y1, .int .i64 x, .int .i64 y] w fun e w' => e = .returned (vR (x0 + x) (y0 + y) (x1 + x) (y1 + y)) ∧ w.grownBy w' none := by
  unfold sm at *
  go_enter Tryz.func31, Tryz.ntmps31
  go_wp2
  exact bodyPost_ret (v := vR (x0 + x) (y0 + y) (x1 + x) (y1 + y)) (by simp [results, Tryz.results31, go_sem]) rfl ⟨rfl, by (repeat (first | exact gb_refl _ _ | refine gb_alloc ?_ _ | refine gb_setCell ?_ (.inr (by simp <;> omega)) _))⟩
set_option maxRecDepth 100000 in
set_option maxHeartbeats 2000000 in
theorem sbounds_c (k x0 y0 x1 y1 : Int) (A : Option Addr) (n c : Nat) (w : World) :
    Calls Tryz.prog 19 #[vI k x0 y0 x1 y1 A n c] w fun e w' => e = .returned (bif decide (k = 6) then vR (-1000000000) (-1000000000) 1000000000 1000000000 else vR x0 y0 x1 y1) ∧ w.grownBy w' none := by
  by_cases h : k = 6
  · subst h
    go_enter Tryz.func19, Tryz.ntmps19
    go_wp2
    exact bodyPost_ret (v := vR (-1000000000) (-1000000000) 1000000000 1000000000) (by simp [results, Tryz.results19, go_sem]) rfl ⟨rfl, by (repeat (first | exact gb_refl _ _ | refine gb_alloc ?_ _ | refine gb_setCell ?_ (.inr (by simp <;> omega)) _))⟩
  · have hd : decide (k = 6) = false := by simpa using h
    rw [hd]
    go_enter Tryz.func19, Tryz.ntmps19
    go_wp2
    exact bodyPost_ret (v := vR x0 y0 x1 y1) (by simp [results, Tryz.results19, go_sem]) rfl ⟨rfl, by (repeat (first | exact gb_refl _ _ | refine gb_alloc ?_ _ | refine gb_setCell ?_ (.inr (by simp <;> omega)) _))⟩
end Go.Proofs.YtgjpohmjkhgpfaaGreat

namespace Go.Proofs.YtgjpohmjkhgpfaaGreat
open Go.RowKit

theorem add_add (a : Addr) (i k : Nat) : (a.add i).add k = a.add (i + k) := by
  unfold Addr.add
  by_cases h1 : i = 0
  · subst h1; simp
  · by_cases h2 : k = 0
    · subst h2; simp
    · rw [if_neg h1, if_neg h2, if_neg (by omega)]; simp [Nat.add_assoc]
theorem run_max3 (a b c : Int) (ts : Array TypeId) (t : TypeId) (w : World) : (Builtin.max_ ts t #[.int .u8 a, .int .u8 b, .int .u8 c]).run Tryz.prog w = .ok (.int .u8 (hi2 (hi2 a b) c)) w := by
  unfold hi2
  by_cases h : a < b
  · by_cases h' : b < c <;> simp [Builtin.max_, Builtin.max2, h, h']
  · by_cases h' : a < c <;> simp [Builtin.max_, Builtin.max2, h, h']

set_option maxRecDepth 100000 in
set_option maxHeartbeats 2000000 in
theorem size0_c (w : World) : Calls Tryz.prog 27 #[.int .i64 0] w fun e w' => e = .returned (.int .i64 4) ∧ w = w' := by
  go_enter Tryz.func27, Tryz.ntmps27
  go_wp2
  go_ret
  exact ⟨rfl, rfl⟩

/-- no color of the first m pixels is above alpha -/
def Mul0 (p : Nat → Int) (m : Nat) : Prop := ∀ j, j < m → p (4 * j) ≤ p (4 * j + 3) ∧ p (4 * j + 1) ≤ p (4 * j + 3) ∧ p (4 * j + 2) ≤ p (4 * j + 3)
set_option maxRecDepth 100000 in
set_option maxHeartbeats 8000000 in
theorem mult0_c {x0 y0 x1 y1 : Int} {A : Option Addr} {n c : Nat} {p : Nat → Int} (w : World) (h : Rd w A n p) (hp : By p) (hn : n ≤ 2147483647) (hc : n ≤ c) (hc2 : c ≤ 9223372036854775807) :
    Calls Tryz.prog 30 #[vI 0 x0 y0 x1 y1 A n c] w (BoolOut w (Mul0 p (n / 4))) := by
  have H := hid h
  have HP := hid hp
  clear h hp
  have hmx := fun a b d ts t w => run_max3 a b d ts t w
  go_enter Tryz.func30, Tryz.ntmps30
  go_wp2
  go_loopw [3] (fun u wr => ∃ j : Nat, 4 * j ≤ n ∧ u = .int .i64 ((4 * j : Nat) : Int) ∧ Mul0 p j ∧ w.grownBy wr none ∧ wr.cell? ⟨w.heap.size, 5, none⟩ = some (.slice A n c)) (fun u _ => n - (intOf u).toNat)
  case atStart => exact ⟨0, by omega, rfl, fun j hj => absurd hj (by omega), gb_alloc (gb_refl _ _) _, by go_simp⟩
  case round =>
    obtain ⟨j, hj, rfl, hm, hg, h5⟩ := hrel
    have HM := hid hm
    have HG := hid hg
    clear hm hg
    by_cases hlt : 4 * j + 3 < n
    · obtain ⟨a, hA, hb, hca⟩ := H.out (by omega)
      subst hA
      have k0 : wr.cell? (a.add (4 * j)) = some (.int .u8 (p (4 * j))) := (gb_cell0 HG.out (by rw [add_block]; exact hb)).trans (hca _ (by omega))
      have k1 : wr.cell? ⟨(a.add (4 * j)).block, (a.add (4 * j)).off + 1, none⟩ = some (.int .u8 (p (4 * j + 1))) := by show wr.cell? ((a.add (4 * j)).add 1) = _; rw [add_add]; exact (gb_cell0 HG.out (by rw [add_block]; exact hb)).trans (hca _ (by omega))
      have k2 : wr.cell? ⟨(a.add (4 * j)).block, (a.add (4 * j)).off + 2, none⟩ = some (.int .u8 (p (4 * j + 2))) := by show wr.cell? ((a.add (4 * j)).add 2) = _; rw [add_add]; exact (gb_cell0 HG.out (by rw [add_block]; exact hb)).trans (hca _ (by omega))
      have k3 : wr.cell? ⟨(a.add (4 * j)).block, (a.add (4 * j)).off + 3, none⟩ = some (.int .u8 (p (4 * j + 3))) := by show wr.cell? ((a.add (4 * j)).add 3) = _; rw [add_add]; exact (gb_cell0 HG.out (by rw [add_block]; exact hb)).trans (hca _ (by omega))
      clear hca hb
      have q4 : 4 * j + 4 - 4 * j = 4 := by omega
      by_cases hv : p (4 * j + 3) < hi2 (hi2 (p (4 * j)) (p (4 * j + 1))) (p (4 * j + 2))
      · go_wp2
        go_quiet (fail)
        go_wp2
        go_ret
        exact ⟨false, rfl, fun h => Bool.noConfusion h, gb_drewN HG.out _⟩
      · go_wp2
        go_quiet (fail)
        go_wp2
        refine ⟨⟨j + 1, by omega, by go_num, ?_, gb_drewN HG.out _, by go_simp⟩, by simp [intOf]; omega⟩
        intro i hi
        by_cases hij : i < j
        · exact HM.out i hij
        · obtain rfl : i = j := by omega
          rw [hi2_eq, hi2_eq] at hv
          omega
    · go_wp2
      go_ret
      refine ⟨true, rfl, fun _ i hi => HM.out i (by omega), HG.out⟩
end Go.Proofs.YtgjpohmjkhgpfaaGreat
