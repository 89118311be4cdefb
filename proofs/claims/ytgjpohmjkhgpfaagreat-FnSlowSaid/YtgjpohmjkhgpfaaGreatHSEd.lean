/- image/draw: DrawMask's general loop, pixel by pixel through the images' interfaces, by Over. The images do not overlap. -/
import Derived.Test.YtgjpohmjkhgpfaaGreatHSD
set_option linter.unusedSimpArgs false
set_option linter.unusedVariables false
namespace Go.Proofs.YtgjpohmjkhgpfaaGreat
open Go.RowKit

set_option maxRecDepth 1000000 in
set_option maxHeartbeats 16000000 in
theorem sl0_d {w0 : World} {td ts tm : TypeId} {bd pd dh dw bs ps sh sw bm pm mh mw kd ks km rx ry xe ye sx sy mx my br bp bq bo n tt : Nat} {dx0 dy0 sx0 sy0 mx0 my0 b0 b1 p0 p1 q0 q1 : Int} {D S M F : Nat → Nat → Nat → Int} (C : CxS 0 w0 td ts tm bd pd dh dw bs ps sh sw bm pm mh mw kd ks km rx ry xe ye sx sy mx my br bp bq bo n tt dx0 dy0 sx0 sy0 mx0 my0 b0 b1 p0 p1 q0 q1 D S M F) (c : Nat → Value) (wr : World) (j k : Nat) (P' : Act → World → Prop) (Q0 : Exit → Act → World → Prop)
    (hSl : SlS 0 td ts tm bd bs bm br bp bq bo n tt b0 b1 c) (h96 : c 96 = .int .i64 (b1 + (j : Int))) (h94 : c 94 = .int .i64 (p1 + (j : Int))) (h95 : c 95 = .int .i64 (q1 + (j : Int))) (h99 : c 99 = .int .i64 (b0 + (k : Int))) (h97 : c 97 = .int .i64 (p0 + (k : Int))) (h98 : c 98 = .int .i64 (q0 + (k : Int)))
    (hj : j < tt) (hk : k < n) (hgr : w0.grownBy wr (some pd)) (hgs : Src wr bd pd dh dw dx0 dy0 (pt (fw rx xe ry j k) F D) kd td) (hoc : OutC wr bo) (hz : ¬ cl km (M (my + j) (mx + k)) 3 = 0 ∧ (cl km (M (my + j) (mx + k)) 3 == 65535) = false)
    (hP : ∀ a' w', InS 0 w0 td ts tm bd pd dh dw bs bm kd rx ry xe br bp bq bo n tt dx0 dy0 b0 b1 p0 p1 q0 q1 D F j (k + 1) a' w' → P' a' w') : Code.wp Tryz.prog innerS (Exit.then P' Q0) ⟨FRl c, []⟩ wr := by
  have HPx := hid hP
  obtain ⟨h6, h0, h2, h4, h62, h63, h64, h66, h67, h8, h10, h12, h93⟩ := hSl
  have HSl := hid (And.intro h62 (And.intro h66 (And.intro h67 (And.intro h8 (And.intro h10 h12)))))
  clear hP h62 h66 h67 h8 h10 h12
  obtain ⟨fs, hFs, hMs, hCs⟩ := C.HS.matx
  obtain ⟨fm, hFm, hMm, hCm⟩ := C.HM.mat
  unfold Fn at hFs hFm
  have HCs := hid hCs
  have HCm := hid hCm
  clear hCs hCm
  have HGR := hid hgr
  have HGS := hid hgs
  have HOC := hid hoc
  have HO := hid C.ho
  have HO1 := hid C.o1
  have HO2 := hid C.o2
  have HSr := hid (C.HS.kept hgr C.n1 C.n2)
  have HMr := hid (C.HM.kept hgr C.n4 C.n5)
  have hlb : bd < wr.heap.size := Nat.lt_of_lt_of_le C.HD.lt hgr.size
  obtain ⟨e1, e2, e3, e4, e5, e6⟩ := C.HE
  obtain ⟨i1, i2, i3, i4, i5, i6, i7, i8⟩ := C.HL
  have t1 : b0 + (k : Int) - dx0 = ((rx + k : Nat) : Int) := by omega
  have t2 : b1 + (j : Int) - dy0 = ((ry + j : Nat) : Int) := by omega
  have t3 : p0 + (k : Int) - sx0 = ((sx + k : Nat) : Int) := by omega
  have t4 : p1 + (j : Int) - sy0 = ((sy + j : Nat) : Int) := by omega
  have t6 : q0 + (k : Int) - mx0 = ((mx + k : Nat) : Int) := by omega
  have t7 : q1 + (j : Int) - my0 = ((my + j : Nat) : Int) := by omega
  have t5 : rx + k < dw ∧ ry + j < dh ∧ sx + k < sw ∧ sy + j < sh := by omega
  have t8 : mx + k < mw ∧ my + j < mh := by omega
  have t9 : rx + k < xe := by omega
  have HT := hid (And.intro (And.intro t1 t2) (And.intro (And.intro t3 t4) t5))
  have HTm := hid (And.intro t6 (And.intro t7 t8))
  have hFv : F (ry + j) (rx + k) = cutN (sz kd) (pxM kd ks km 0 (D (ry + j) (rx + k)) (S (sy + j) (sx + k)) (M (my + j) (mx + k))) := by
    rw [C.HF]; dsimp only
    rw [show sy + (ry + j - ry) = sy + j by omega, show sx + (rx + k - rx) = sx + k by omega, show my + (ry + j - ry) = my + j by omega, show mx + (rx + k - rx) = mx + k by omega]
  have HFv := hid hFv
  have hdn : ∀ r' c', fw rx xe ry j (k + 1) r' c' ↔ (fw rx xe ry j k r' c' ∨ (r' = ry + j ∧ c' = rx + k)) := fun r' c' => by unfold fw; omega
  have Hdn := hid hdn
  have hdd : pt (fw rx xe ry j k) F D (ry + j) (rx + k) = D (ry + j) (rx + k) := by
    funext ch; exact pt_neg (by unfold fw; omega) ch
  have hr1 : (b0 + (k : Int) != b0 + (n : Int)) = true := by rw [bne_iff_ne]; omega
  have hr2 : ¬ (k = n) := by omega
  have bb := C.HB
  have HBb := hid bb
  have bb1 : -9000 ≤ b0 + (k : Int) ∧ b0 + (k : Int) ≤ 9000 := by omega
  have bb2 : -9000009000 ≤ p0 + (k : Int) ∧ p0 + (k : Int) ≤ 9000009000 := by omega
  have bb3 : -9000009000 ≤ q0 + (k : Int) ∧ q0 + (k : Int) ≤ 9000009000 := by omega
  clear e1 e2 e3 e4 e5 e6 i1 i2 i3 i4 i5 i6 i7 i8 t1 t2 t3 t4 t5 t6 t7 t8 hFv hgr hgs hoc bb hdn
  have HKd := hid C.HK
  obtain ⟨dd, hd⟩ : ∃ dd : Nat → Int, cl kd (D (ry + j) (rx + k)) = dd := ⟨_, rfl⟩
  obtain ⟨ss, hs⟩ : ∃ ss : Nat → Int, cl ks (S (sy + j) (sx + k)) = ss := ⟨_, rfl⟩
  obtain ⟨mv, hm⟩ : ∃ mv : Nat → Int, cl km (M (my + j) (mx + k)) = mv := ⟨_, rfl⟩
  rw [hm] at hz
  have rd : ∀ i, 0 ≤ dd i ∧ dd i ≤ 65535 := fun i => by rw [← hd]; exact cl_range (C.HD.by _ _) i
  have rs : ∀ i, 0 ≤ ss i ∧ ss i ≤ 65535 := fun i => by rw [← hs]; exact cl_range (C.HS.by _ _) i
  have rm : 0 ≤ mv 3 ∧ mv 3 ≤ 65535 := by rw [← hm]; exact cl_range (C.HM.by _ _) 3
  have ps : ∀ i, i < 4 → ss i ≤ ss 3 := fun i hi => by
    by_cases e : i = 3
    · rw [e]; exact Int.le_refl _
    · rw [← hs]; exact C.Hpm _ _ i (by omega)
  obtain ⟨v, hv⟩ : ∃ v : Nat → Int, v = fun i => mixM 0 (dd i) (ss i) (ss 3) (mv 3) := ⟨_, rfl⟩
  have hFe : F (ry + j) (rx + k) = cutN (sz kd) (en kd v) := by
    rw [HFv.out, hv, ← hd, ← hs, ← hm]; rfl
  have hvr : ∀ i, i < 4 → 0 ≤ v i ∧ v i ≤ 65535 := fun i hi => by
    rw [hv]; exact mixM_le (rd i) (rs i) (rs 3) rm (ps i hi)
  have Hv := hid (And.intro hFe hvr)
  have Hd := hid hd
  have Hs := hid hs
  have Hm := hid hm
  have HSB := hid C.HS.by
  have HDB := hid C.HD.by
  clear hd hs hm hFe hvr C
  have z0 : (mv 3 == 0) = false := beq_eq_false_iff_ne.2 hz.1
  have z1 : (mv 3 == 65535) = false := hz.2
  clear hz
  obtain ⟨P0, hP0⟩ : ∃ P, ss 0 * mv 3 = P := ⟨_, rfl⟩
  obtain ⟨P1, hP1⟩ : ∃ P, ss 1 * mv 3 = P := ⟨_, rfl⟩
  obtain ⟨P2, hP2⟩ : ∃ P, ss 2 * mv 3 = P := ⟨_, rfl⟩
  obtain ⟨P3, hP3⟩ : ∃ P, ss 3 * mv 3 = P := ⟨_, rfl⟩
  have bP3 := fu_mul (rs 3) rm
  rw [hP3] at bP3
  have bP0 : 0 ≤ P0 ∧ P0 ≤ P3 := by rw [← hP0, ← hP3]; exact ⟨Int.mul_nonneg (rs 0).1 rm.1, prod_le rm.1 (ps 0 (by omega))⟩
  have bP1 : 0 ≤ P1 ∧ P1 ≤ P3 := by rw [← hP1, ← hP3]; exact ⟨Int.mul_nonneg (rs 1).1 rm.1, prod_le rm.1 (ps 1 (by omega))⟩
  have bP2 : 0 ≤ P2 ∧ P2 ≤ P3 := by rw [← hP2, ← hP3]; exact ⟨Int.mul_nonneg (rs 2).1 rm.1, prod_le rm.1 (ps 2 (by omega))⟩
  obtain ⟨Q0, hQ0⟩ : ∃ Q, dd 0 * (65535 - P3 / 65535) = Q := ⟨_, rfl⟩
  have bQ0 := rest_le (rd 0).1 (rd 0).2 (show 0 ≤ 65535 - P3 / 65535 by omega)
  rw [hQ0] at bQ0
  obtain ⟨Q1, hQ1⟩ : ∃ Q, dd 1 * (65535 - P3 / 65535) = Q := ⟨_, rfl⟩
  have bQ1 := rest_le (rd 1).1 (rd 1).2 (show 0 ≤ 65535 - P3 / 65535 by omega)
  rw [hQ1] at bQ1
  obtain ⟨Q2, hQ2⟩ : ∃ Q, dd 2 * (65535 - P3 / 65535) = Q := ⟨_, rfl⟩
  have bQ2 := rest_le (rd 2).1 (rd 2).2 (show 0 ≤ 65535 - P3 / 65535 by omega)
  rw [hQ2] at bQ2
  obtain ⟨Q3, hQ3⟩ : ∃ Q, dd 3 * (65535 - P3 / 65535) = Q := ⟨_, rfl⟩
  have bQ3 := rest_le (rd 3).1 (rd 3).2 (show 0 ≤ 65535 - P3 / 65535 by omega)
  rw [hQ3] at bQ3
  have y0 : 0 ≤ Q0 + P0 ∧ Q0 + P0 ≤ 4294901759 := by omega
  have y1 : 0 ≤ Q1 + P1 ∧ Q1 + P1 ≤ 4294901759 := by omega
  have y2 : 0 ≤ Q2 + P2 ∧ Q2 + P2 ≤ 4294901759 := by omega
  have y3 : 0 ≤ Q3 + P3 ∧ Q3 + P3 ≤ 4294901759 := by omega
  have V0 : (Q0 + P0) / 65535 = v 0 := by rw [hv]; show _ = mixM 0 _ _ _ _; unfold mixM; rw [if_pos rfl, hP3, hP0, hQ0]
  have V1 : (Q1 + P1) / 65535 = v 1 := by rw [hv]; show _ = mixM 0 _ _ _ _; unfold mixM; rw [if_pos rfl, hP3, hP1, hQ1]
  have V2 : (Q2 + P2) / 65535 = v 2 := by rw [hv]; show _ = mixM 0 _ _ _ _; unfold mixM; rw [if_pos rfl, hP3, hP2, hQ2]
  have V3 : (Q3 + P3) / 65535 = v 3 := by rw [hv]; show _ = mixM 0 _ _ _ _; unfold mixM; rw [if_pos rfl, hP3, hQ3]
  have D0 := rd 0
  have D1 := rd 1
  have D2 := rd 2
  have D3 := rd 3
  have S0 := rs 0
  have S1 := rs 1
  have S2 := rs 2
  have S3 := rs 3
  have HV := hid (And.intro V0 (And.intro V1 (And.intro V2 V3)))
  clear V0 V1 V2 V3 hv rd rs ps
  conv => arg 2; whnf
  unfold FRl
  go_wp2_with fail
  refine (HCm.out _ _ _ (my + j) (mx + k) (HMr.out.kept0 (by (repeat (first | exact gb_refl _ _ | refine gb_drewN ?_ _ | refine gb_drew ?_ | refine gb_alloc ?_ _)))) HTm.out.1 HTm.out.2.1 HTm.out.2.2.1 HTm.out.2.2.2).mono ?_
  rintro e w4 ⟨⟨tcm, cvm, rfl, gm, hFgm, hMgm, hGgm⟩, hg4⟩
  rw [Hm.out] at hGgm
  have HG4 := hid (gb_trans (a := wr) (by (repeat (first | exact gb_refl _ _ | refine gb_drewN ?_ _ | refine gb_drew ?_ | refine gb_alloc ?_ _))) hg4)
  have HGm := hid hGgm
  unfold Fn at hFgm
  clear hg4 hGgm
  go_wp2_with fail
  refine (HGm.out _).mono ?_
  rintro e w5 ⟨rfl, hg5⟩
  have HG5 := hid (gb_trans (gb_trans HG4.out (by (repeat (first | exact gb_refl _ _ | refine gb_drewN ?_ _ | refine gb_drew ?_ | refine gb_alloc ?_ _)))) hg5)
  clear hg5 hFgm hMgm
  go_wp2_with fail
  refine (HCs.out _ _ _ (sy + j) (sx + k) _ (HSr.out.kept0 (gb_trans HG5.out (by (repeat (first | exact gb_refl _ _ | refine gb_drewN ?_ _ | refine gb_drew ?_ | refine gb_alloc ?_ _))))) HT.out.2.1.1 HT.out.2.1.2 HT.out.2.2.2.2.1 HT.out.2.2.2.2.2).mono ?_
  rintro e w6 ⟨⟨tcs, cvs, rfl, ⟨gs, hFgs, hMgs, hGgs⟩, -⟩, hg6⟩
  rw [Hs.out] at hGgs
  have HG6 := hid (gb_trans (gb_trans HG5.out (by (repeat (first | exact gb_refl _ _ | refine gb_drewN ?_ _ | refine gb_drew ?_ | refine gb_alloc ?_ _)))) hg6)
  have HGs := hid hGgs
  unfold Fn at hFgs
  clear hg6 hGgs
  go_wp2_with fail
  refine (HGs.out _).mono ?_
  rintro e w7 ⟨rfl, hg7⟩
  have HG7 := hid (gb_trans (gb_trans HG6.out (by (repeat (first | exact gb_refl _ _ | refine gb_drewN ?_ _ | refine gb_drew ?_ | refine gb_alloc ?_ _)))) hg7)
  clear hg7 hFgs hMgs
  go_wp2_with fail
  refine (plain_at_c (r := ry + j) (c := rx + k) _ (HGS.out.kept0 (gb_trans HG7.out (by (repeat (first | exact gb_refl _ _ | refine gb_drewN ?_ _ | refine gb_drew ?_ | refine gb_alloc ?_ _))))) HT.out.1.1 HT.out.1.2 HT.out.2.2.1 HT.out.2.2.2.1).mono ?_
  rintro e w8 ⟨⟨tcd, cvd, rfl, gd, hFgd, hMgd, hGgd⟩, hg8⟩
  rw [hdd, Hd.out] at hGgd
  have HG8 := hid (gb_trans (gb_trans HG7.out (by (repeat (first | exact gb_refl _ _ | refine gb_drewN ?_ _ | refine gb_drew ?_ | refine gb_alloc ?_ _)))) hg8)
  have HGd := hid hGgd
  unfold Fn at hFgd
  clear hg8 hGgd
  go_wp2_with fail
  refine (HGd.out _).mono ?_
  rintro e w9 ⟨rfl, hg9⟩
  have HG9 := hid (gb_trans (gb_trans HG8.out (by (repeat (first | exact gb_refl _ _ | refine gb_drewN ?_ _ | refine gb_drew ?_ | refine gb_alloc ?_ _)))) hg9)
  clear hg9 hFgd hMgd
  obtain ⟨⟨ov, ov0, ov1, ov2, ov3⟩, ovf⟩ := HOC.out.kept0 HG9.out
  have ovl := (HOC.out.kept0 HG9.out).lt
  go_wp2_with fail
  rw [HV.out.1, HV.out.2.1, HV.out.2.2.1, HV.out.2.2.2]
  have oc0 := gb_weak HG9.out (some bo)
  have oc1 := gb_setCell oc0 (p := ⟨bo, 0, none⟩) (.inl rfl) (.int .u16 (v 0))
  have oc2 := gb_setCell oc1 (p := ⟨bo, 1, none⟩) (.inl rfl) (.int .u16 (v 1))
  have oc3 := gb_setCell oc2 (p := ⟨bo, 2, none⟩) (.inl rfl) (.int .u16 (v 2))
  have oc4 := gb_setCell oc3 (p := ⟨bo, 3, none⟩) (.inl rfl) (.int .u16 (v 3))
  have od0 := gb_trans HGR.out (gb_weak HG9.out (some pd))
  have od1 := gb_setCell od0 (p := ⟨bo, 0, none⟩) (.inr HO.out) (.int .u16 (v 0))
  have od2 := gb_setCell od1 (p := ⟨bo, 1, none⟩) (.inr HO.out) (.int .u16 (v 1))
  have od3 := gb_setCell od2 (p := ⟨bo, 2, none⟩) (.inr HO.out) (.int .u16 (v 2))
  have od4 := gb_setCell od3 (p := ⟨bo, 3, none⟩) (.inr HO.out) (.int .u16 (v 3))
  have HOC4 := hid (oc4)
  have HOD4 := hid (od4)
  clear oc0 oc1 oc2 oc3 oc4 od0 od1 od2 od3 od4
  obtain ⟨W4, hW4⟩ : ∃ W4, W4 = ((((w9.setCell ⟨bo, 0, none⟩ (.int .u16 (v 0))).setCell ⟨bo, 1, none⟩ (.int .u16 (v 1))).setCell ⟨bo, 2, none⟩ (.int .u16 (v 2))).setCell ⟨bo, 3, none⟩ (.int .u16 (v 3))) := ⟨_, rfl⟩
  have k0 : W4.cell? ⟨bo, 0, none⟩ = some (.int .u16 (v 0)) := by rw [hW4]; go_simp
  have k1 : W4.cell? ⟨bo, 1, none⟩ = some (.int .u16 (v 1)) := by rw [hW4]; go_simp
  have k2 : W4.cell? ⟨bo, 2, none⟩ = some (.int .u16 (v 2)) := by rw [hW4]; go_simp
  have k3 : W4.cell? ⟨bo, 3, none⟩ = some (.int .u16 (v 3)) := by rw [hW4]; go_simp
  have kf : ∀ i, W4.frozen? ⟨bo, i, none⟩ = false := fun i => by rw [hW4]; go_simp
  rw [← hW4]
  rw [← hW4] at HOC4 HOD4
  have HW4 := hid (show OutC W4 bo from ⟨⟨v, k0, k1, k2, k3⟩, kf⟩)
  refine (plain_set_c (r := ry + j) (c := rx + k) (v := v) (F := F) (D := D) (dn := fw rx xe ry j k) (dn' := fw rx xe ry j (k + 1)) W4 (HGS.out.kept HOC4.out (Ne.symm HO2.out) (Ne.symm HO1.out)) HKd.out HT.out.1.1 HT.out.1.2 HT.out.2.2.1 HT.out.2.2.2.1 (ColW.out Hv.out.2 k0 k1 k2 k3) Hv.out.1 Hdn.out).mono ?_
  rintro e wz ⟨rfl, hgz, hsz⟩
  have HGZ := hid (gb_trans HOD4.out hgz)
  have HSZ := hid hsz
  have HOZ := hid (HW4.out.kept hgz HO1.out)
  clear hgz hsz k0 k1 k2 k3 kf hW4 ov0 ov1 ov2 ov3 ovf
  go_wp2_with fail
  obtain ⟨h62, h66, h67, h8, h10, h12⟩ := HSl.out
  have z99 : (.int .i64 (b0 + (k : Int) + 1) : Value) = .int .i64 (b0 + ((k + 1 : Nat) : Int)) := by push_cast; rw [Int.add_assoc]
  have z97 : (.int .i64 (p0 + (k : Int) + 1) : Value) = .int .i64 (p0 + ((k + 1 : Nat) : Int)) := by push_cast; rw [Int.add_assoc]
  have z98 : (.int .i64 (q0 + (k : Int) + 1) : Value) = .int .i64 (q0 + ((k + 1 : Nat) : Int)) := by push_cast; rw [Int.add_assoc]
  exact HPx.out _ _ ⟨_, mkFR (by kernel_rfl), ⟨(by first | exact Eq.trans (by as_aux_lemma => kernel_rfl) h6 | kernel_rfl), (by first | exact Eq.trans (by as_aux_lemma => kernel_rfl) h0 | kernel_rfl), (by first | exact Eq.trans (by as_aux_lemma => kernel_rfl) h2 | kernel_rfl), (by first | exact Eq.trans (by as_aux_lemma => kernel_rfl) h4 | kernel_rfl), (by first | exact Eq.trans (by as_aux_lemma => kernel_rfl) h62 | kernel_rfl), (by first | exact Eq.trans (by as_aux_lemma => kernel_rfl) h63 | kernel_rfl), (by first | exact Eq.trans (by as_aux_lemma => kernel_rfl) h64 | kernel_rfl), (by first | exact Eq.trans (by as_aux_lemma => kernel_rfl) h66 | kernel_rfl), (by first | exact Eq.trans (by as_aux_lemma => kernel_rfl) h67 | kernel_rfl), (by first | exact Eq.trans (by as_aux_lemma => kernel_rfl) h8 | kernel_rfl), (by first | exact Eq.trans (by as_aux_lemma => kernel_rfl) h10 | kernel_rfl), (by first | exact Eq.trans (by as_aux_lemma => kernel_rfl) h12 | kernel_rfl), (by first | exact Eq.trans (by as_aux_lemma => kernel_rfl) h93 | kernel_rfl)⟩, (by first | exact Eq.trans (by as_aux_lemma => kernel_rfl) h96 | kernel_rfl), (by first | exact Eq.trans (by as_aux_lemma => kernel_rfl) h94 | kernel_rfl), (by first | exact Eq.trans (by as_aux_lemma => kernel_rfl) h95 | kernel_rfl), (by first | exact Eq.trans (by as_aux_lemma => kernel_rfl) z99 | kernel_rfl), (by first | exact Eq.trans (by as_aux_lemma => kernel_rfl) z97 | kernel_rfl), (by first | exact Eq.trans (by as_aux_lemma => kernel_rfl) z98 | kernel_rfl), HGZ.out, HSZ.out, HOZ.out⟩
end Go.Proofs.YtgjpohmjkhgpfaaGreat
