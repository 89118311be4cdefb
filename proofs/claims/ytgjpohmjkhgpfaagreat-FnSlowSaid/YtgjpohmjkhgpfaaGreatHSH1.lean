/- image/draw: DrawMask's general road, pixel by pixel through the images' interfaces, by Src, whole. The images do not overlap. -/
import Derived.Test.YtgjpohmjkhgpfaaGreatHSG1
set_option linter.unusedSimpArgs false
set_option linter.unusedVariables false
namespace Go.Proofs.YtgjpohmjkhgpfaaGreat
open Go.RowKit

set_option maxRecDepth 1000000 in
set_option maxHeartbeats 16000000 in
theorem dmS_m1 {bd pd dh dw bs ps sh sw bm pm mh mw kd ks km rx ry xe ye sx sy mx my : Nat} {dx0 dy0 sx0 sy0 mx0 my0 x0 y0 x1 y1 px py qx qy b0 b1 b2 b3 p0 p1 q0 q1 : Int} {D S M : Nat → Nat → Nat → Int} {td ts tm : TypeId} (w : World)
    (hD : Src w bd pd dh dw dx0 dy0 D kd td) (hkd : kd = 0 ∨ kd = 2 ∨ kd = 4) (hS : Src w bs ps sh sw sx0 sy0 S ks ts) (hM : Src w bm pm mh mw mx0 my0 M km tm) (hpm : ∀ r c, Pm ks (S r c)) (n0 : bd ≠ bs) (n1 : bs ≠ pd) (n2 : ps ≠ pd) (n3 : bd ≠ pd) (n4 : bm ≠ pd) (n5 : pm ≠ pd)
    (hC : Cl1 x0 y0 x1 y1 px py qx qy dx0 dy0 (dx0 + dw) (dy0 + dh) sx0 sy0 (sx0 + sw) (sy0 + sh) mx0 my0 (mx0 + mw) (my0 + mh) b0 b1 b2 b3 p0 p1 q0 q1)
    (hR : Rct b0 b1 b2 b3 dx0 dy0 rx ry xe ye dh dw) (hP : Plc p0 p1 sx0 sy0 sx sy rx ry xe ye sh sw) (hQ : Plc q0 q1 mx0 my0 mx my rx ry xe ye mh mw) (hb : -3000 ≤ dx0 ∧ dx0 ≤ 3000 ∧ -3000 ≤ dy0 ∧ dy0 ≤ 3000 ∧ dw ≤ 128 ∧ dh ≤ 128) (hsx : sm sx0 ∧ sm sy0 ∧ sm sw ∧ sm sh) (hmx : sm mx0 ∧ sm my0 ∧ sm mw ∧ sm mh) :
    Calls Tryz.prog 42 #[.iface 83 (vPl td bd), vR x0 y0 x1 y1, .iface ts (.pointer (some ⟨bs, 0, none⟩)), vP px py, .iface tm (.pointer (some ⟨bm, 0, none⟩)), vP qx qy, .int .i64 1] w
      (Drawn w pd (sz kd) dh dw rx ry xe ye (fun r c => pxM kd ks km 1 (D r c) (S (sy + (r - ry)) (sx + (c - rx))) (M (my + (r - ry)) (mx + (c - rx)))) D) := by
  obtain ⟨F, hF⟩ : ∃ F : Nat → Nat → Nat → Int, F = (fun r c => cutN (sz kd) (pxM kd ks km 1 (D r c) (S (sy + (r - ry)) (sx + (c - rx))) (M (my + (r - ry)) (mx + (c - rx))))) := ⟨_, rfl⟩
  refine Calls.mono (R := Drawn w pd (sz kd) dh dw rx ry xe ye F D) ?_ (fun e w' h => ⟨h.1, h.2.1, h.2.2.congr fun r c ch hr hc hch => ?_⟩)
  rotate_left
  · by_cases hin : inR rx xe ry ye r c
    · rw [pt_pos hin, pt_pos hin, hF]; exact cutN_lt hch
    · rw [pt_neg hin, pt_neg hin]
  have HF := hid hF
  clear hF
  have HC := hid hC
  have Hem := hid (rct_ne hR)
  have HR := hid hR
  have HP := hid hP
  have HQ := hid hQ
  have HD := hid hD
  have HS := hid hS
  have HM0 := hid hM
  have HK := hid hkd
  have HB := hid hb
  have HX := hid hsx
  have HXm := hid hmx
  have Hpm := hid hpm
  have Hn := hid (And.intro n0 (And.intro n1 (And.intro n2 (And.intro n3 (And.intro n4 n5)))))
  clear hC hR hP hQ hD hS hM hkd hb hsx hmx hpm n0 n1 n2 n3 n4 n5
  go_enter Tryz.func42, Tryz.ntmps42
  go_wp2_with fail
  refine (clip1_k HC.out (w0 := w) (gb_alloc (gb_alloc (gb_alloc (gb_refl _ _) _) _) _) (Nat.le_refl _) (by omega) (by omega) (by omega) (by omega) (by omega) (plain_bd HD.out.bd) HS.out.bd HM0.out.bd (cp_start _ _ _ _ _ _ _ _ _)).mono ?_
  rintro e w1 ⟨rfl, hg, hcp⟩
  have HCp0 := hid hcp
  obtain ⟨c0, c1, c2, c3, k0, k1, l0, l1, fr, fp, fq⟩ := hcp
  have z1 : w.heap.size < w1.heap.size := World.block_lt_of_cell? w1 _ c0
  have z2 : w.heap.size + 1 < w1.heap.size := World.block_lt_of_cell? w1 _ k0
  have z3 : w.heap.size + 2 < w1.heap.size := World.block_lt_of_cell? w1 _ l0
  clear fr fp fq
  have Hg := hid hg
  clear hg
  go_wp2_with fail
  refine (empty_c b0 b1 b2 b3 _).mono ?_
  rintro e w2 ⟨rfl, rfl⟩
  rw [Hem.out]
  go_wp2_with fail
  go_quiet (fail)
  go_wp2_with fail
  go_quiet (fail)
  go_wp2_with fail
  refine (pbackp_c HS.out.tne).mono ?_
  rintro e w3 ⟨rfl, hg3⟩
  have HW := hid (gb_trans (gb_drewN (gb_alloc (gb_refl w1 none) (.cells #[.int .i64 b0, .int .i64 b1, .int .i64 b2, .int .i64 b3] 78)) _) hg3)
  have HG3 := hid (gb_trans Hg.out HW.out)
  clear hg3
  have Hc := hid (And.intro ((gb_cell0 HW.out z1).trans c0) (And.intro ((gb_cell0 HW.out z1).trans c1) (And.intro ((gb_cell0 HW.out z1).trans c2) (And.intro ((gb_cell0 HW.out z1).trans c3) (And.intro ((gb_cell0 HW.out z2).trans k0) (And.intro ((gb_cell0 HW.out z2).trans k1) (And.intro ((gb_cell0 HW.out z3).trans l0) ((gb_cell0 HW.out z3).trans l1))))))))
  have hz3 := HW.out.size
  have x1' : w.heap.size < w3.heap.size := by omega
  have x2' : w.heap.size + 1 < w3.heap.size := by omega
  have x3' : w.heap.size + 2 < w3.heap.size := by omega
  clear c0 c1 c2 c3 k0 k1 l0 l1
  obtain ⟨c0, c1, c2, c3, k0, k1, l0, l1⟩ := Hc.out
  obtain ⟨f1, f2, f3, f4, l2', l3', l4', l5'⟩ := HR.out
  obtain ⟨f5, f6, l6', l7'⟩ := HP.out
  obtain ⟨f7, f8, l8', l9'⟩ := HQ.out
  obtain ⟨v1, v2, v3, v4, v5, v6⟩ := HB.out
  have m0 : -4000 ≤ b0 ∧ b0 ≤ 4000 ∧ -4000 ≤ b2 ∧ b2 ≤ 4000 := by omega
  have m1 : -4000 ≤ b1 ∧ b1 ≤ 4000 ∧ -4000 ≤ b3 ∧ b3 ≤ 4000 := by omega
  have m2 : -9000000000 ≤ p0 ∧ p0 ≤ 9000000000 ∧ -9000000000 ≤ p1 ∧ p1 ≤ 9000000000 := by
    have := HX.out
    unfold sm at this
    omega
  have m3 : -9000000000 ≤ q0 ∧ q0 ≤ 9000000000 ∧ -9000000000 ≤ q1 ∧ q1 ≤ 9000000000 := by
    have h1 := HXm.out
    obtain ⟨h2, h3, h4, h5⟩ := HQ.out
    unfold sm at h1
    omega
  obtain ⟨n, hn⟩ : ∃ n : Nat, xe - rx = n := ⟨_, rfl⟩
  obtain ⟨tt, ht⟩ : ∃ tt : Nat, ye - ry = tt := ⟨_, rfl⟩
  have hn' : rx + n = xe := by omega
  have ht' : ry + tt = ye := by omega
  have m4 : b2 = b0 + (n : Int) := by omega
  have m5 : b3 = b1 + (tt : Int) := by omega
  have m6 : n ≤ 128 ∧ tt ≤ 128 := by omega
  subst m4
  subst m5
  have HE := hid (And.intro f1 (And.intro f2 (And.intro f3 (And.intro f4 (And.intro f5 (And.intro f6 (And.intro f7 f8)))))))
  have HL := hid (And.intro (And.intro l2' (And.intro l3' (And.intro l4' l5'))) (And.intro (And.intro l6' l7') (And.intro l8' l9')))
  have HN := hid (And.intro hn' ht')
  obtain ⟨n0, n1, n2, n3, n4, n5⟩ := Hn.out
  have hlb := HD.out.lt
  have hls := HS.out.lt
  have hlm := HM0.out.lt
  have y1 : w.heap.size ≠ pd := by have := HD.out.pix (by have := HK.out; omega); omega
  have y2 : w.heap.size + 1 ≠ pd := by have := HD.out.pix (by have := HK.out; omega); omega
  have y3 : w.heap.size + 2 ≠ pd := by have := HD.out.pix (by have := HK.out; omega); omega
  clear f1 f2 f3 f4 f5 f6 f7 f8 l2' l3' l4' l5' l6' l7' l8' l9' hn hn' ht ht' z1 z2 z3 hz3 v1 v2 v3 v4
  go_wp2_with fail
  have hpd := HD.out.pix (by have := HK.out; omega)
  have hz3 := HG3.out.size
  refine slo1_lit (w0 := w3) (xe := xe) (ye := ye) (kd := kd) (ks := ks) (km := km) (S := S) (M := M) (D := D) (F := F) (bo := w3.heap.size) (C := ⟨HD.out.kept0 HG3.out, HK.out, HS.out.kept0 HG3.out, HM0.out.kept0 HG3.out, Hpm.out, n1, n2, n4, n5, y1, y2, y3, Nat.le_refl _, by omega, by omega, ?_, ?_, ?_, HF.out, HCp0.out.grown HW.out⟩) _ _ (by kernel_rfl) (by refine ⟨?_, ?_, ?_, ?_, ?_, ?_, ?_, ?_, ?_, ?_, ?_, ?_, ?_⟩ <;> kernel_rfl) (by kernel_rfl) (by kernel_rfl) (by kernel_rfl) (gb_alloc (gb_refl _ _) _) ⟨⟨fun _ => 0, by go_simp, by go_simp, by go_simp, by go_simp⟩, fun k => by go_simp⟩ ?_
  · have := HE.out
    omega
  · have := HE.out
    have := HL.out
    have := HN.out
    omega
  · omega
  · intro a' w' hgb hg' hdf
    have HDF := hid hdf
    have HGB := hid hgb
    have HGS := hid hg'
    clear hdf hgb hg'
    go_wp2_with fail
    refine bodyPost_end (v := .tuple #[]) (by simp [results, Tryz.results42]) HDF.out ⟨rfl, gb_trans (gb_weak HG3.out _) HGB.out, ?_⟩
    have := HN.out
    have := HE.out
    exact pt_turn (HGS.out.pixi (by have := HK.out; omega)) (fun r c _ _ => by unfold fw inR; omega)
end Go.Proofs.YtgjpohmjkhgpfaaGreat
