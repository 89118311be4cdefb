/- The law FnSlow: its walk. No condition. -/
import Derived.Test.YtgjpohmjkhgpfaaGreatHLYS
import Derived.Test.YtgjpohmjkhgpfaaGreatHN17
import Derived.Test.YtgjpohmjkhgpfaaGreatHN19
set_option linter.unusedSimpArgs false
set_option linter.unusedVariables false
namespace Go.Proofs.YtgjpohmjkhgpfaaGreat
open Go.RowKit

set_option maxRecDepth 100000 in
set_option maxHeartbeats 8000000 in
theorem slow_walk {kd ks km Xd0 Yd0 Xd1 Yd1 X0 Y0 X1 Y1 Xm0 Ym0 Xm1 Ym1 r0 r1 r2 r3 px py qx qy op : Int} {Ad As Am : Option Addr} {n n' n'' cd cs cm : Nat} {p s m : Nat → Int} (w : World) (hd : InI w Ad n cd p) (hs : InI w As n' cs s) (hm : InI w Am n'' cm m) :
    Calls Tryz.prog 6 #[vI kd Xd0 Yd0 Xd1 Yd1 Ad n cd, vR r0 r1 r2 r3, vI ks X0 Y0 X1 Y1 As n' cs, .int .i64 px, .int .i64 py, vI km Xm0 Ym0 Xm1 Ym1 Am n'' cm, .int .i64 qx, .int .i64 qy, .int .i64 op] w fun e w' => e = .returned (.bool true) ∧ w.grownBy w' none := by
  have HD := hid hd
  have HS := hid hs
  have HM := hid hm
  clear hd hs hm
  by_cases hn : n ≤ 2147483647
  · by_cases hn' : n' ≤ 2147483647
    · by_cases hn'' : n'' ≤ 2147483647
      · go_enter Tryz.func6, Tryz.ntmps6
        go_wp2_with fail
        refine (fits_y _ hn).mono ?_
        rintro e w1 ⟨rfl, hg⟩
        have hh1 := gb_trans (a := w) (by (repeat (first | exact gb_refl _ _ | assumption | refine gb_drew ?_ | refine gb_drewN ?_ _ | refine gb_alloc ?_ _ | refine gb_setCell ?_ (.inr (by simp <;> omega)) _))) hg
        have HG1 := hid hh1
        have hA : CellsAt w1 w.heap.size [.int .i64 kd, .int .i64 Xd0, .int .i64 Yd0, .int .i64 Xd1, .int .i64 Yd1, .slice Ad n cd] := CellsAt.kept0 (fun i v hv => by (rcases i with _ | _ | _ | _ | _ | _ | i <;> (first | (cases hv; go_simp; done) | (simp at hv; done)))) hg
        have HA1 := hid hA
        clear hA
        have zA := HA1.out.lt
        have hR : CellsAt w1 (w.heap.size + 1) [.int .i64 r0, .int .i64 r1, .int .i64 r2, .int .i64 r3] := CellsAt.kept0 (fun i v hv => by (rcases i with _ | _ | _ | _ | i <;> (first | (cases hv; go_simp; done) | (simp at hv; done)))) hg
        have HR1 := hid hR
        clear hR
        have zR := HR1.out.lt
        have hS : CellsAt w1 (w.heap.size + 1 + 1) [.int .i64 ks, .int .i64 X0, .int .i64 Y0, .int .i64 X1, .int .i64 Y1, .slice As n' cs] := CellsAt.kept0 (fun i v hv => by (rcases i with _ | _ | _ | _ | _ | _ | i <;> (first | (cases hv; go_simp; done) | (simp at hv; done)))) hg
        have HS1 := hid hS
        clear hS
        have zS := HS1.out.lt
        have hM : CellsAt w1 (w.heap.size + 1 + 1 + 1) [.int .i64 km, .int .i64 Xm0, .int .i64 Ym0, .int .i64 Xm1, .int .i64 Ym1, .slice Am n'' cm] := CellsAt.kept0 (fun i v hv => by (rcases i with _ | _ | _ | _ | _ | _ | i <;> (first | (cases hv; go_simp; done) | (simp at hv; done)))) hg
        have HM1 := hid hM
        clear hM
        have zM := HM1.out.lt
        clear hg hh1
        have s0' := HS1.out 0 _ rfl
        have s1' := HS1.out 1 _ rfl
        have s2' := HS1.out 2 _ rfl
        have s3' := HS1.out 3 _ rfl
        have s4' := HS1.out 4 _ rfl
        have s5' := HS1.out 5 _ rfl
        go_wp2_with fail
        refine (fits_y _ hn').mono ?_
        rintro e w2 ⟨rfl, hg⟩
        have hh2 := gb_trans (a := w1) (by (repeat (first | exact gb_refl _ _ | assumption | refine gb_drew ?_ | refine gb_drewN ?_ _ | refine gb_alloc ?_ _ | refine gb_setCell ?_ (.inr (by simp <;> omega)) _))) hg
        have HG2 := hid (gb_trans HG1.out hh2)
        clear zA zR zS zM
        have HA2 := hid (HA1.out.kept0 hh2)
        have zA := HA2.out.lt
        have HR2 := hid (HR1.out.kept0 hh2)
        have zR := HR2.out.lt
        have HS2 := hid (HS1.out.kept0 hh2)
        have zS := HS2.out.lt
        have HM2 := hid (HM1.out.kept0 hh2)
        have zM := HM2.out.lt
        clear s0' s1' s2' s3' s4' s5'
        clear hg hh2
        have m0' := HM2.out 0 _ rfl
        have m1' := HM2.out 1 _ rfl
        have m2' := HM2.out 2 _ rfl
        have m3' := HM2.out 3 _ rfl
        have m4' := HM2.out 4 _ rfl
        have m5' := HM2.out 5 _ rfl
        go_wp2_with fail
        refine (fits_y _ hn'').mono ?_
        rintro e w3 ⟨rfl, hg⟩
        have hh3 := gb_trans (a := w2) (by (repeat (first | exact gb_refl _ _ | assumption | refine gb_drew ?_ | refine gb_drewN ?_ _ | refine gb_alloc ?_ _ | refine gb_setCell ?_ (.inr (by simp <;> omega)) _))) hg
        have HG3 := hid (gb_trans HG2.out hh3)
        clear zA zR zS zM
        have HA3 := hid (HA2.out.kept0 hh3)
        have zA := HA3.out.lt
        have HR3 := hid (HR2.out.kept0 hh3)
        have zR := HR3.out.lt
        have HS3 := hid (HS2.out.kept0 hh3)
        have zS := HS3.out.lt
        have HM3 := hid (HM2.out.kept0 hh3)
        have zM := HM3.out.lt
        clear m0' m1' m2' m3' m4' m5'
        clear hg hh3
        have r0' := HR3.out 0 _ rfl
        have r1' := HR3.out 1 _ rfl
        have r2' := HR3.out 2 _ rfl
        have r3' := HR3.out 3 _ rfl
        go_wp2_with fail
        refine (lrect_c r0 r1 r2 r3 _).mono ?_
        rintro e w4 ⟨b, q0, q1, q2, q3, rfl, hb, hg⟩
        have hh4 := gb_trans (a := w3) (by (repeat (first | exact gb_refl _ _ | assumption | refine gb_drew ?_ | refine gb_drewN ?_ _ | refine gb_alloc ?_ _ | refine gb_setCell ?_ (.inr (by simp <;> omega)) _))) hg
        have HG4 := hid (gb_trans HG3.out hh4)
        clear zA zR zS zM
        have HA4 := hid (HA3.out.kept0 hh4)
        have zA := HA4.out.lt
        have HR4 := hid (HR3.out.kept0 hh4)
        have zR := HR4.out.lt
        have HS4 := hid (HS3.out.kept0 hh4)
        have zS := HS4.out.lt
        have HM4 := hid (HM3.out.kept0 hh4)
        have zM := HM4.out.lt
        clear r0' r1' r2' r3'
        clear hg hh4
        cases b
        · go_wp2_with fail
          go_ret
          exact ⟨rfl, gb_trans HG4.out (by (repeat (first | exact gb_refl _ _ | assumption | refine gb_drew ?_ | refine gb_drewN ?_ _ | refine gb_alloc ?_ _ | refine gb_setCell ?_ (.inr (by simp <;> omega)) _)))⟩
        obtain ⟨hr, rfl, rfl, rfl, rfl⟩ := hb rfl
        have HNR := hid hr
        clear hr hb
        have a0' := HA4.out 0 _ rfl
        have a1' := HA4.out 1 _ rfl
        have a2' := HA4.out 2 _ rfl
        have a3' := HA4.out 3 _ rfl
        have a4' := HA4.out 4 _ rfl
        have a5' := HA4.out 5 _ rfl
        go_wp2_with fail
        refine (target_c _ (HD.out.1.kept0 (gb_trans HG4.out (by (repeat (first | exact gb_refl _ _ | assumption | refine gb_drew ?_ | refine gb_drewN ?_ _ | refine gb_alloc ?_ _ | refine gb_setCell ?_ (.inr (by simp <;> omega)) _))))) HD.out.2.1 hn HD.out.2.2.2.1 HD.out.2.2.2.2).mono ?_
        rintro e w5 ⟨b, rfl, hb, hg⟩
        have hh5 := gb_trans (a := w4) (by (repeat (first | exact gb_refl _ _ | assumption | refine gb_drew ?_ | refine gb_drewN ?_ _ | refine gb_alloc ?_ _ | refine gb_setCell ?_ (.inr (by simp <;> omega)) _))) hg
        have HG5 := hid (gb_trans HG4.out hh5)
        clear zA zR zS zM
        have HA5 := hid (HA4.out.kept0 hh5)
        have zA := HA5.out.lt
        have HR5 := hid (HR4.out.kept0 hh5)
        have zR := HR5.out.lt
        have HS5 := hid (HS4.out.kept0 hh5)
        have zS := HS5.out.lt
        have HM5 := hid (HM4.out.kept0 hh5)
        have zM := HM5.out.lt
        clear a0' a1' a2' a3' a4' a5'
        have hT : CellsAt w5 w4.heap.size [.int .i64 q0, .int .i64 q1, .int .i64 q2, .int .i64 q3] := CellsAt.kept0 (fun i v hv => by (rcases i with _ | _ | _ | _ | i <;> (first | (cases hv; go_simp; done) | (simp at hv; done)))) hg
        have HT5 := hid hT
        clear hT
        have zT := HT5.out.lt
        clear hg hh5
        cases b
        · go_wp2_with fail
          go_ret
          exact ⟨rfl, gb_trans HG5.out (by (repeat (first | exact gb_refl _ _ | assumption | refine gb_drew ?_ | refine gb_drewN ?_ _ | refine gb_alloc ?_ _ | refine gb_setCell ?_ (.inr (by simp <;> omega)) _)))⟩
        obtain ⟨kk, rfl, hkk, hv⟩ := hb rfl
        have HV := hid hv
        have HK := hid hkk
        clear hb hv hkk
        have s0' := HS5.out 0 _ rfl
        have s1' := HS5.out 1 _ rfl
        have s2' := HS5.out 2 _ rfl
        have s3' := HS5.out 3 _ rfl
        have s4' := HS5.out 4 _ rfl
        have s5' := HS5.out 5 _ rfl
        go_wp2_with fail
        refine (valid_c _ (HS.out.1.kept0 (gb_trans HG5.out (by (repeat (first | exact gb_refl _ _ | assumption | refine gb_drew ?_ | refine gb_drewN ?_ _ | refine gb_alloc ?_ _ | refine gb_setCell ?_ (.inr (by simp <;> omega)) _))))) HS.out.2.1 hn' HS.out.2.2.2.1 HS.out.2.2.2.2).mono ?_
        rintro e w6 ⟨b, rfl, hb, hg⟩
        have hh6 := gb_trans (a := w5) (by (repeat (first | exact gb_refl _ _ | assumption | refine gb_drew ?_ | refine gb_drewN ?_ _ | refine gb_alloc ?_ _ | refine gb_setCell ?_ (.inr (by simp <;> omega)) _))) hg
        have HG6 := hid (gb_trans HG5.out hh6)
        clear zA zR zS zM zT
        have HA6 := hid (HA5.out.kept0 hh6)
        have zA := HA6.out.lt
        have HR6 := hid (HR5.out.kept0 hh6)
        have zR := HR6.out.lt
        have HS6 := hid (HS5.out.kept0 hh6)
        have zS := HS6.out.lt
        have HM6 := hid (HM5.out.kept0 hh6)
        have zM := HM6.out.lt
        have HT6 := hid (HT5.out.kept0 hh6)
        have zT := HT6.out.lt
        clear s0' s1' s2' s3' s4' s5'
        clear hg hh6
        cases b
        · go_wp2_with fail
          go_ret
          exact ⟨rfl, gb_trans HG6.out (by (repeat (first | exact gb_refl _ _ | assumption | refine gb_drew ?_ | refine gb_drewN ?_ _ | refine gb_alloc ?_ _ | refine gb_setCell ?_ (.inr (by simp <;> omega)) _)))⟩
        obtain ⟨k2, rfl, hv⟩ := hb rfl
        have HVS := hid hv
        clear hb hv
        have m0' := HM6.out 0 _ rfl
        have m1' := HM6.out 1 _ rfl
        have m2' := HM6.out 2 _ rfl
        have m3' := HM6.out 3 _ rfl
        have m4' := HM6.out 4 _ rfl
        have m5' := HM6.out 5 _ rfl
        go_wp2_with fail
        refine (valid_c _ (HM.out.1.kept0 (gb_trans HG6.out (by (repeat (first | exact gb_refl _ _ | assumption | refine gb_drew ?_ | refine gb_drewN ?_ _ | refine gb_alloc ?_ _ | refine gb_setCell ?_ (.inr (by simp <;> omega)) _))))) HM.out.2.1 hn'' HM.out.2.2.2.1 HM.out.2.2.2.2).mono ?_
        rintro e w7 ⟨b, rfl, hb, hg⟩
        have hh7 := gb_trans (a := w6) (by (repeat (first | exact gb_refl _ _ | assumption | refine gb_drew ?_ | refine gb_drewN ?_ _ | refine gb_alloc ?_ _ | refine gb_setCell ?_ (.inr (by simp <;> omega)) _))) hg
        have HG7 := hid (gb_trans HG6.out hh7)
        clear zA zR zS zM zT
        have HA7 := hid (HA6.out.kept0 hh7)
        have zA := HA7.out.lt
        have HR7 := hid (HR6.out.kept0 hh7)
        have zR := HR7.out.lt
        have HS7 := hid (HS6.out.kept0 hh7)
        have zS := HS7.out.lt
        have HM7 := hid (HM6.out.kept0 hh7)
        have zM := HM7.out.lt
        have HT7 := hid (HT6.out.kept0 hh7)
        have zT := HT7.out.lt
        clear m0' m1' m2' m3' m4' m5'
        clear hg hh7
        cases b
        · go_wp2_with fail
          go_ret
          exact ⟨rfl, gb_trans HG7.out (by (repeat (first | exact gb_refl _ _ | assumption | refine gb_drew ?_ | refine gb_drewN ?_ _ | refine gb_alloc ?_ _ | refine gb_setCell ?_ (.inr (by simp <;> omega)) _)))⟩
        obtain ⟨k3, rfl, hv⟩ := hb rfl
        have HVM := hid hv
        clear hb hv
        go_wp2_with fail
        refine (fine_c (n := 4) (l := fun i => if i = 0 then px else if i = 1 then py else if i = 2 then qx else qy) _ (fun i hi => ?_) (by omega)).mono ?_
        · have hi' : i = 0 ∨ i = 1 ∨ i = 2 ∨ i = 3 := by omega
          rcases hi' with rfl | rfl | rfl | rfl <;> go_simp
        rintro e w8 ⟨⟨b, rfl, hb⟩, rfl⟩
        cases b
        · go_wp2_with fail
          go_ret
          exact ⟨rfl, gb_trans HG7.out (by (repeat (first | exact gb_refl _ _ | assumption | refine gb_drew ?_ | refine gb_drewN ?_ _ | refine gb_alloc ?_ _ | refine gb_setCell ?_ (.inr (by simp <;> omega)) _)))⟩
        have hpx : nr px := hb rfl 0 (by omega)
        have hpy : nr py := hb rfl 1 (by omega)
        have hqx : nr qx := hb rfl 2 (by omega)
        have hqy : nr qy := hb rfl 3 (by omega)
        have HXY := hid (And.intro hpx (And.intro hpy (And.intro hqx hqy)))
        clear hb hpx hpy hqx hqy
        obtain ⟨o, ho, hand⟩ := and1 op
        obtain ⟨dh, dw, GD, gx, gy, gm, gw, gh, v1, v2, v3, v4⟩ := vk_geo (by have := HK.out; omega) HV.out
        have HGD := hid (And.intro GD (And.intro gx (And.intro gy (And.intro gm (And.intro gw (And.intro gh (And.intro v1 (And.intro v2 (And.intro v3 v4)))))))))
        obtain ⟨hk6, hpm, sh, sw, sx0, sy0, sx1, sy1, GS, DS, AS, t1, t2, hX, hB⟩ := vk_all HVS.out HS.out.2.1 HS.out.2.2.1 hn'
        have HGS := hid (And.intro GS (And.intro DS (And.intro AS (And.intro hpm hX))))
        obtain ⟨hk7, hpm', mh, mw, mx0, my0, mx1, my1, GM, DM, AM, t3, t4, hX', hB'⟩ := vk_all HVM.out HM.out.2.1 HM.out.2.2.1 hn''
        have HGM := hid (And.intro GM (And.intro DM (And.intro AM hX')))
        have HC0 : Hid (∃ b0 b1 b2 b3 p0 p1 k0 k1, Cl1 q0 q1 q2 q3 px py qx qy Xd0 Yd0 Xd1 Yd1 sx0 sy0 sx1 sy1 mx0 my0 mx1 my1 b0 b1 b2 b3 p0 p1 k0 k1) := hid (by
          obtain ⟨hr0, hr1, hr2, hr3⟩ := HNR.out
          obtain ⟨hpx, hpy, hqx, hqy⟩ := HXY.out
          unfold nr at hr0 hr1 hr2 hr3 hpx hpy hqx hqy
          exact cl1_ex (by unfold sm; omega) (by unfold sm; omega) (by unfold sm; omega) (by unfold sm; omega) (by unfold sm; omega) (by unfold sm; omega) (by unfold sm; omega) (by unfold sm; omega) (by unfold sm; omega) (by unfold sm; omega) (by unfold sm; omega) (by unfold sm; omega) (by unfold sm; omega) (by unfold sm; omega) (by unfold sm; omega) (by unfold sm; omega) (by unfold sm; omega) (by unfold sm; omega) (by unfold sm; omega) (by unfold sm; omega))
        obtain ⟨b0, b1, b2, b3, p0, p1, k0, k1, hC⟩ := HC0.out
        have HC := hid hC
        have HC3 : Hid (Cl1 q0 q1 q2 q3 px py qx qy Xd0 Yd0 (Xd0 + dw) (Yd0 + dh) sx0 sy0 (sx0 + sw) (sy0 + sh) mx0 my0 (mx0 + mw) (my0 + mh) b0 b1 b2 b3 p0 p1 k0 k1) := hid (by
          have h := hC
          rw [gx, gy, t1, t2, t3, t4] at h
          exact h)
        clear hC
        clear GD gx gy gm gw gh v1 v2 v3 v4 GS DS AS hpm hX t1 t2 hB GM DM AM hpm' hX' t3 t4 hB'
        go_upto_region 7 with fail
        refine wp_region_inv (JV w7 [some (vI kk Xd0 Yd0 Xd1 Yd1 Ad n cd), some (vR Xd0 Yd0 Xd1 Yd1), some (vR q0 q1 q2 q3), some (vI k2 X0 Y0 X1 Y1 As n' cs), some (vR sx0 sy0 sx1 sy1), some (.int .i64 px), some (.int .i64 py), some (vI k3 Xm0 Ym0 Xm1 Ym1 Am n'' cm), some (vR mx0 my0 mx1 my1), some (.int .i64 qx), some (.int .i64 qy), some (.tuple #[vR b0 b1 b2 b3, vP p0 p1, vP k0 k1]), some (.tuple #[vR b0 b1 b2 b3, vP p0 p1, vP k0 k1]), some (vR b0 b1 b2 b3), some (vP p0 p1), some (vP k0 k1), none, none, none, none, none, none] [(16, 19, [.int .i64 b0, .int .i64 b1, .int .i64 b2, .int .i64 b3]), (17, 20, [.int .i64 p0, .int .i64 p1]), (18, 21, [.int .i64 k0, .int .i64 k1])]) (fun _ => undef) (by kernel_rfl) (by kernel_rfl) [(0, 71), (1, 72), (2, 73), (3, 74), (4, 75), (5, 76), (6, 77), (7, 78), (8, 79), (9, 80), (10, 81), (11, 82), (12, 70), (13, 83), (14, 84), (15, 85), (16, 21), (17, 22), (18, 23)] (by kernel_rfl) (JV.start (by (repeat (first | exact gb_refl _ _ | assumption | refine gb_drew ?_ | refine gb_drewN ?_ _ | refine gb_alloc ?_ _ | refine gb_setCell ?_ (.inr (by simp <;> omega)) _)))) ?_ ?_
        · refine Steps'.cons [] (by kernel_rfl) ?_ (Steps'.cons [(0, 71)] (by kernel_rfl) ?_ (Steps'.cons [] (by kernel_rfl) ?_ (Steps'.cons [] (by kernel_rfl) ?_ (Steps'.cons [(3, 74)] (by kernel_rfl) ?_ (Steps'.cons [] (by kernel_rfl) ?_ (Steps'.cons [] (by kernel_rfl) ?_ (Steps'.cons [] (by kernel_rfl) ?_ (Steps'.cons [(7, 78)] (by kernel_rfl) ?_ (Steps'.cons [] (by kernel_rfl) ?_ (Steps'.cons [] (by kernel_rfl) ?_ (Steps'.cons [(1, 72), (2, 73), (4, 75), (5, 76), (6, 77), (8, 79), (9, 80), (10, 81)] (by kernel_rfl) ?_ (Steps'.cons [(11, 82)] (by kernel_rfl) ?_ (Steps'.cons [(12, 70)] (by kernel_rfl) ?_ (Steps'.cons [(12, 70)] (by kernel_rfl) ?_ (Steps'.cons [(12, 70)] (by kernel_rfl) ?_ (Steps'.cons [] (by kernel_rfl) ?_ (Steps'.cons [] (by kernel_rfl) ?_ (Steps'.cons [] (by kernel_rfl) ?_ (Steps'.cons [(13, 83), (16, 21)] (by kernel_rfl) ?_ (Steps'.cons [(14, 84), (17, 22)] (by kernel_rfl) ?_ (Steps'.cons [(15, 85), (18, 23)] (by kernel_rfl) ?_ (Steps'.nil))))))))))))))))))))))
          · intro l t w7 hJ hl hd bb hbb K hK
            have f0 := (HA7.out.kept0 hJ.gb) 0 _ rfl
            have f1 := (HA7.out.kept0 hJ.gb) 1 _ rfl
            have f2 := (HA7.out.kept0 hJ.gb) 2 _ rfl
            have f3 := (HA7.out.kept0 hJ.gb) 3 _ rfl
            have f4 := (HA7.out.kept0 hJ.gb) 4 _ rfl
            have f5 := (HA7.out.kept0 hJ.gb) 5 _ rfl
            simp only [puts, Act.put, List.setIfInBounds_toArray, List.set_cons_zero, List.set_cons_succ] at hbb
            subst hbb
            go_simp
            exact hK.out _ _ (hJ.pure (gb_refl _ _) rfl rfl)
          · intro l t w7 hJ hl hd bb hbb K hK
            have e0 := hJ.val 0 _ rfl (hd 0 (by kernel_rfl))
            simp only [puts, Act.put, List.setIfInBounds_toArray, List.set_cons_zero, List.set_cons_succ] at hbb
            rw [e0] at hbb
            subst hbb
            go_simp
            refine (sbounds_k (vk_dat (by have := HK.out; omega) HV.out HD.out.2.1 hn) Ad n cd _).mono ?_
            rintro e w8 ⟨rfl, hg⟩
            exact hK.out _ _ (hJ.pure hg rfl rfl)
          · intro l t w7 hJ hl hd bb hbb K hK
            have f0 := (HT7.out.kept0 hJ.gb) 0 _ rfl
            have f1 := (HT7.out.kept0 hJ.gb) 1 _ rfl
            have f2 := (HT7.out.kept0 hJ.gb) 2 _ rfl
            have f3 := (HT7.out.kept0 hJ.gb) 3 _ rfl
            simp only [puts, Act.put, List.setIfInBounds_toArray, List.set_cons_zero, List.set_cons_succ] at hbb
            subst hbb
            go_simp
            exact hK.out _ _ (hJ.pure (gb_refl _ _) rfl rfl)
          · intro l t w7 hJ hl hd bb hbb K hK
            have f0 := (HS7.out.kept0 hJ.gb) 0 _ rfl
            have f1 := (HS7.out.kept0 hJ.gb) 1 _ rfl
            have f2 := (HS7.out.kept0 hJ.gb) 2 _ rfl
            have f3 := (HS7.out.kept0 hJ.gb) 3 _ rfl
            have f4 := (HS7.out.kept0 hJ.gb) 4 _ rfl
            have f5 := (HS7.out.kept0 hJ.gb) 5 _ rfl
            simp only [puts, Act.put, List.setIfInBounds_toArray, List.set_cons_zero, List.set_cons_succ] at hbb
            subst hbb
            go_simp
            exact hK.out _ _ (hJ.pure (gb_refl _ _) rfl rfl)
          · intro l t w7 hJ hl hd bb hbb K hK
            have e3 := hJ.val 3 _ rfl (hd 3 (by kernel_rfl))
            simp only [puts, Act.put, List.setIfInBounds_toArray, List.set_cons_zero, List.set_cons_succ] at hbb
            rw [e3] at hbb
            subst hbb
            go_simp
            refine (sbounds_k HGS.out.2.1 As n' cs _).mono ?_
            rintro e w8 ⟨rfl, hg⟩
            exact hK.out _ _ (hJ.pure hg rfl rfl)
          · intro l t w7 hJ hl hd bb hbb K hK
            simp only [puts, Act.put, List.setIfInBounds_toArray, List.set_cons_zero, List.set_cons_succ] at hbb
            subst hbb
            go_simp
            exact hK.out _ _ (hJ.pure (gb_refl _ _) rfl rfl)
          · intro l t w7 hJ hl hd bb hbb K hK
            simp only [puts, Act.put, List.setIfInBounds_toArray, List.set_cons_zero, List.set_cons_succ] at hbb
            subst hbb
            go_simp
            exact hK.out _ _ (hJ.pure (gb_refl _ _) rfl rfl)
          · intro l t w7 hJ hl hd bb hbb K hK
            have f0 := (HM7.out.kept0 hJ.gb) 0 _ rfl
            have f1 := (HM7.out.kept0 hJ.gb) 1 _ rfl
            have f2 := (HM7.out.kept0 hJ.gb) 2 _ rfl
            have f3 := (HM7.out.kept0 hJ.gb) 3 _ rfl
            have f4 := (HM7.out.kept0 hJ.gb) 4 _ rfl
            have f5 := (HM7.out.kept0 hJ.gb) 5 _ rfl
            simp only [puts, Act.put, List.setIfInBounds_toArray, List.set_cons_zero, List.set_cons_succ] at hbb
            subst hbb
            go_simp
            exact hK.out _ _ (hJ.pure (gb_refl _ _) rfl rfl)
          · intro l t w7 hJ hl hd bb hbb K hK
            have e7 := hJ.val 7 _ rfl (hd 7 (by kernel_rfl))
            simp only [puts, Act.put, List.setIfInBounds_toArray, List.set_cons_zero, List.set_cons_succ] at hbb
            rw [e7] at hbb
            subst hbb
            go_simp
            refine (sbounds_k HGM.out.2.1 Am n'' cm _).mono ?_
            rintro e w8 ⟨rfl, hg⟩
            exact hK.out _ _ (hJ.pure hg rfl rfl)
          · intro l t w7 hJ hl hd bb hbb K hK
            simp only [puts, Act.put, List.setIfInBounds_toArray, List.set_cons_zero, List.set_cons_succ] at hbb
            subst hbb
            go_simp
            exact hK.out _ _ (hJ.pure (gb_refl _ _) rfl rfl)
          · intro l t w7 hJ hl hd bb hbb K hK
            simp only [puts, Act.put, List.setIfInBounds_toArray, List.set_cons_zero, List.set_cons_succ] at hbb
            subst hbb
            go_simp
            exact hK.out _ _ (hJ.pure (gb_refl _ _) rfl rfl)
          · intro l t w7 hJ hl hd bb hbb K hK
            have e1 := hJ.val 1 _ rfl (hd 1 (by kernel_rfl))
            have e2 := hJ.val 2 _ rfl (hd 2 (by kernel_rfl))
            have e4 := hJ.val 4 _ rfl (hd 4 (by kernel_rfl))
            have e5 := hJ.val 5 _ rfl (hd 5 (by kernel_rfl))
            have e6 := hJ.val 6 _ rfl (hd 6 (by kernel_rfl))
            have e8 := hJ.val 8 _ rfl (hd 8 (by kernel_rfl))
            have e9 := hJ.val 9 _ rfl (hd 9 (by kernel_rfl))
            have e10 := hJ.val 10 _ rfl (hd 10 (by kernel_rfl))
            simp only [puts, Act.put, List.setIfInBounds_toArray, List.set_cons_zero, List.set_cons_succ] at hbb
            rw [e1] at hbb
            rw [e2] at hbb
            rw [e4] at hbb
            rw [e5] at hbb
            rw [e6] at hbb
            rw [e8] at hbb
            rw [e9] at hbb
            rw [e10] at hbb
            subst hbb
            go_simp
            refine (sclip1_c _ HC.out).mono ?_
            rintro e w8 ⟨rfl, hg⟩
            exact hK.out _ _ (hJ.pure hg rfl rfl)
          · intro l t w7 hJ hl hd bb hbb K hK
            have e11 := hJ.val 11 _ rfl (hd 11 (by kernel_rfl))
            simp only [puts, Act.put, List.setIfInBounds_toArray, List.set_cons_zero, List.set_cons_succ] at hbb
            rw [e11] at hbb
            subst hbb
            go_simp
            exact hK.out _ _ (hJ.pure (gb_refl _ _) rfl rfl)
          · intro l t w7 hJ hl hd bb hbb K hK
            have e12 := hJ.val 12 _ rfl (hd 12 (by kernel_rfl))
            simp only [puts, Act.put, List.setIfInBounds_toArray, List.set_cons_zero, List.set_cons_succ] at hbb
            rw [e12] at hbb
            subst hbb
            go_simp
            exact hK.out _ _ (hJ.pure (gb_refl _ _) rfl rfl)
          · intro l t w7 hJ hl hd bb hbb K hK
            have e12 := hJ.val 12 _ rfl (hd 12 (by kernel_rfl))
            simp only [puts, Act.put, List.setIfInBounds_toArray, List.set_cons_zero, List.set_cons_succ] at hbb
            rw [e12] at hbb
            subst hbb
            go_simp
            exact hK.out _ _ (hJ.pure (gb_refl _ _) rfl rfl)
          · intro l t w7 hJ hl hd bb hbb K hK
            have e12 := hJ.val 12 _ rfl (hd 12 (by kernel_rfl))
            simp only [puts, Act.put, List.setIfInBounds_toArray, List.set_cons_zero, List.set_cons_succ] at hbb
            rw [e12] at hbb
            subst hbb
            go_simp
            exact hK.out _ _ (hJ.pure (gb_refl _ _) rfl rfl)
          · intro l t w7 hJ hl hd bb hbb K hK
            simp only [puts, Act.put, List.setIfInBounds_toArray, List.set_cons_zero, List.set_cons_succ] at hbb
            subst hbb
            go_simp
            exact hK.out _ _ (hJ.alloc (vsOK3 rfl) (C := #[.int .i64 0, .int .i64 0, .int .i64 0, .int .i64 0]) (s := 19) (vals := [.int .i64 b0, .int .i64 b1, .int .i64 b2, .int .i64 b3]) (by simp) rfl hl rfl rfl)
          · intro l t w7 hJ hl hd bb hbb K hK
            simp only [puts, Act.put, List.setIfInBounds_toArray, List.set_cons_zero, List.set_cons_succ] at hbb
            subst hbb
            go_simp
            exact hK.out _ _ (hJ.alloc (vsOK3 rfl) (C := #[.int .i64 0, .int .i64 0]) (s := 20) (vals := [.int .i64 p0, .int .i64 p1]) (by simp) rfl hl rfl rfl)
          · intro l t w7 hJ hl hd bb hbb K hK
            simp only [puts, Act.put, List.setIfInBounds_toArray, List.set_cons_zero, List.set_cons_succ] at hbb
            subst hbb
            go_simp
            exact hK.out _ _ (hJ.alloc (vsOK3 rfl) (C := #[.int .i64 0, .int .i64 0]) (s := 21) (vals := [.int .i64 k0, .int .i64 k1]) (by simp) rfl hl rfl rfl)
          · intro l t w7 hJ hl hd bb hbb K hK
            obtain ⟨g, eg, -, -, hc⟩ := hJ.open (a := 16) (s := 19) (vals := [.int .i64 b0, .int .i64 b1, .int .i64 b2, .int .i64 b3]) (by simp) (hd 16 (by kernel_rfl))
            obtain ⟨⟨u0, c0⟩, z0⟩ := hc 0 (by simp)
            obtain ⟨⟨u1, c1⟩, z1⟩ := hc 1 (by simp)
            obtain ⟨⟨u2, c2⟩, z2⟩ := hc 2 (by simp)
            obtain ⟨⟨u3, c3⟩, z3⟩ := hc 3 (by simp)
            have e13 := hJ.val 13 _ rfl (hd 13 (by kernel_rfl))
            simp only [puts, Act.put, List.setIfInBounds_toArray, List.set_cons_zero, List.set_cons_succ] at hbb
            rw [e13] at hbb
            rw [eg] at hbb
            subst hbb
            go_simp
            obtain ⟨y1, y2, y3⟩ := st4 c0 c1 c2 c3
            exact hK.out undef _ (hJ.store (u := undef) (vsOK3 rfl) (a := 16) (vals := [.int .i64 b0, .int .i64 b1, .int .i64 b2, .int .i64 b3]) (by simp) rfl (hd 16 (by kernel_rfl)) eg y1 y2 y3)
          · intro l t w7 hJ hl hd bb hbb K hK
            obtain ⟨g, eg, -, -, hc⟩ := hJ.open (a := 17) (s := 20) (vals := [.int .i64 p0, .int .i64 p1]) (by simp) (hd 17 (by kernel_rfl))
            obtain ⟨⟨u0, c0⟩, z0⟩ := hc 0 (by simp)
            obtain ⟨⟨u1, c1⟩, z1⟩ := hc 1 (by simp)
            have e14 := hJ.val 14 _ rfl (hd 14 (by kernel_rfl))
            simp only [puts, Act.put, List.setIfInBounds_toArray, List.set_cons_zero, List.set_cons_succ] at hbb
            rw [e14] at hbb
            rw [eg] at hbb
            subst hbb
            go_simp
            obtain ⟨y1, y2, y3⟩ := st2 c0 c1
            exact hK.out undef _ (hJ.store (u := undef) (vsOK3 rfl) (a := 17) (vals := [.int .i64 p0, .int .i64 p1]) (by simp) rfl (hd 17 (by kernel_rfl)) eg y1 y2 y3)
          · intro l t w7 hJ hl hd bb hbb K hK
            obtain ⟨g, eg, -, -, hc⟩ := hJ.open (a := 18) (s := 21) (vals := [.int .i64 k0, .int .i64 k1]) (by simp) (hd 18 (by kernel_rfl))
            obtain ⟨⟨u0, c0⟩, z0⟩ := hc 0 (by simp)
            obtain ⟨⟨u1, c1⟩, z1⟩ := hc 1 (by simp)
            have e15 := hJ.val 15 _ rfl (hd 15 (by kernel_rfl))
            simp only [puts, Act.put, List.setIfInBounds_toArray, List.set_cons_zero, List.set_cons_succ] at hbb
            rw [e15] at hbb
            rw [eg] at hbb
            subst hbb
            go_simp
            obtain ⟨y1, y2, y3⟩ := st2 c0 c1
            exact hK.out undef _ (hJ.store (u := undef) (vsOK3 rfl) (a := 18) (vals := [.int .i64 k0, .int .i64 k1]) (by simp) rfl (hd 18 (by kernel_rfl)) eg y1 y2 y3)
        intro l t wc hJ hl
        obtain ⟨g, e16, -, -, hgc⟩ := hJ.var (a := 16) (s := 19) (vals := [.int .i64 b0, .int .i64 b1, .int .i64 b2, .int .i64 b3]) (by simp) (hl 16 (by decide)) (hl 19 (by decide))
        obtain ⟨h, e17, -, -, hhc⟩ := hJ.var (a := 17) (s := 20) (vals := [.int .i64 p0, .int .i64 p1]) (by simp) (hl 17 (by decide)) (hl 20 (by decide))
        obtain ⟨i9, e18, -, -, hic⟩ := hJ.var (a := 18) (s := 21) (vals := [.int .i64 k0, .int .i64 k1]) (by simp) (hl 18 (by decide)) (hl 21 (by decide))
        have hgw := hJ.gb
        have HB4 : Hid (CellsAt wc g [.int .i64 b0, .int .i64 b1, .int .i64 b2, .int .i64 b3]) := hid hgc
        have HP2 : Hid (CellsAt wc h [.int .i64 p0, .int .i64 p1]) := hid hhc
        have HK2 : Hid (CellsAt wc i9 [.int .i64 k0, .int .i64 k1]) := hid hic
        have HAc := hid (HA7.out.kept0 hgw)
        have HRc := hid (HR7.out.kept0 hgw)
        have HSc := hid (HS7.out.kept0 hgw)
        have HMc := hid (HM7.out.kept0 hgw)
        have HGc := hid (gb_trans HG7.out hgw)
        clear hJ hl hgc hhc hic hgw
        simp only [puts, Act.put, List.setIfInBounds_toArray, List.set_cons_zero, List.set_cons_succ]
        rw [e16, e17, e18]
        clear e16 e17 e18
        obtain ⟨q, hq⟩ : ∃ q, cutN n (resB kk dw (In1 q0 q1 q2 q3 px py qx qy Xd0 Yd0 sx0 sy0 mx0 my0 sh sw mh mw) (fun r c => pxM kk k2 k3 o (toP dw (sz kk) p r c) (srcAt k2 sw s q0 q1 px py Xd0 Yd0 sx0 sy0 r c) (srcAt k3 mw m q0 q1 qx qy Xd0 Yd0 mx0 my0 r c)) p) = q := ⟨_, rfl⟩
        have HQ := hid hq
        clear hq
        go_upto_region 8 with fail
        refine wp_region_inv (JO wc [some (vI kk Xd0 Yd0 Xd1 Yd1 Ad n cd), some (vI kk Xd0 Yd0 Xd1 Yd1 Ad n cd), some (vR q0 q1 q2 q3), some (vI k2 X0 Y0 X1 Y1 As n' cs), some (.int .i64 px), some (.int .i64 py), some (vI k3 Xm0 Ym0 Xm1 Ym1 Am n'' cm), some (.int .i64 qx), some (.int .i64 qy), some (.int .i64 o), none, some (vR b0 b1 b2 b3), some (vP p0 p1), some (vP k0 k1), some (vI k2 X0 Y0 X1 Y1 As n' cs), some (.int .i64 o), some (.bool true), some (.bool true)] [] 10 wc.heap.size n q) (fun _ => undef) (by kernel_rfl) (by kernel_rfl) [(0, 86), (1, 87), (2, 88), (3, 89), (4, 90), (5, 91), (6, 92), (7, 93), (8, 94), (9, 95), (10, 96), (11, 97), (12, 98), (13, 99), (14, 100), (15, 101), (16, 102), (17, 18)] (by kernel_rfl) (JO.start (by (repeat (first | exact gb_refl _ _ | assumption | refine gb_drew ?_ | refine gb_drewN ?_ _ | refine gb_alloc ?_ _ | refine gb_setCell ?_ (.inr (by simp <;> omega)) _)))) ?_ ?_
        · refine Steps'.cons [] (by kernel_rfl) ?_ (Steps'.cons [] (by kernel_rfl) ?_ (Steps'.cons [] (by kernel_rfl) ?_ (Steps'.cons [] (by kernel_rfl) ?_ (Steps'.cons [] (by kernel_rfl) ?_ (Steps'.cons [] (by kernel_rfl) ?_ (Steps'.cons [] (by kernel_rfl) ?_ (Steps'.cons [] (by kernel_rfl) ?_ (Steps'.cons [] (by kernel_rfl) ?_ (Steps'.cons [] (by kernel_rfl) ?_ (Steps'.cons [(1, 87), (2, 88), (3, 89), (4, 90), (5, 91), (6, 92), (7, 93), (8, 94), (9, 95)] (by kernel_rfl) ?_ (Steps'.cons [] (by kernel_rfl) ?_ (Steps'.cons [] (by kernel_rfl) ?_ (Steps'.cons [] (by kernel_rfl) ?_ (Steps'.cons [] (by kernel_rfl) ?_ (Steps'.cons [] (by kernel_rfl) ?_ (Steps'.cons [(0, 86), (10, 96), (11, 97), (12, 98), (13, 99), (14, 100), (15, 101)] (by kernel_rfl) ?_ (Steps'.cons [(16, 102)] (by kernel_rfl) ?_ (Steps'.nil))))))))))))))))))
          · intro l t w7 hJ hl hd bb hbb K hK
            have f0 := (HAc.out.kept0 hJ.1.gb) 0 _ rfl
            have f1 := (HAc.out.kept0 hJ.1.gb) 1 _ rfl
            have f2 := (HAc.out.kept0 hJ.1.gb) 2 _ rfl
            have f3 := (HAc.out.kept0 hJ.1.gb) 3 _ rfl
            have f4 := (HAc.out.kept0 hJ.1.gb) 4 _ rfl
            have f5 := (HAc.out.kept0 hJ.1.gb) 5 _ rfl
            simp only [puts, Act.put, List.setIfInBounds_toArray, List.set_cons_zero, List.set_cons_succ] at hbb
            subst hbb
            go_simp
            exact hK.out _ _ (hJ.pure (gb_refl _ _) rfl rfl rfl)
          · intro l t w7 hJ hl hd bb hbb K hK
            have f0 := (HAc.out.kept0 hJ.1.gb) 0 _ rfl
            have f1 := (HAc.out.kept0 hJ.1.gb) 1 _ rfl
            have f2 := (HAc.out.kept0 hJ.1.gb) 2 _ rfl
            have f3 := (HAc.out.kept0 hJ.1.gb) 3 _ rfl
            have f4 := (HAc.out.kept0 hJ.1.gb) 4 _ rfl
            have f5 := (HAc.out.kept0 hJ.1.gb) 5 _ rfl
            simp only [puts, Act.put, List.setIfInBounds_toArray, List.set_cons_zero, List.set_cons_succ] at hbb
            subst hbb
            go_simp
            exact hK.out _ _ (hJ.pure (gb_refl _ _) rfl rfl rfl)
          · intro l t w7 hJ hl hd bb hbb K hK
            have f0 := (HRc.out.kept0 hJ.1.gb) 0 _ rfl
            have f1 := (HRc.out.kept0 hJ.1.gb) 1 _ rfl
            have f2 := (HRc.out.kept0 hJ.1.gb) 2 _ rfl
            have f3 := (HRc.out.kept0 hJ.1.gb) 3 _ rfl
            simp only [puts, Act.put, List.setIfInBounds_toArray, List.set_cons_zero, List.set_cons_succ] at hbb
            subst hbb
            go_simp
            exact hK.out _ _ (hJ.pure (gb_refl _ _) rfl rfl rfl)
          · intro l t w7 hJ hl hd bb hbb K hK
            have f0 := (HSc.out.kept0 hJ.1.gb) 0 _ rfl
            have f1 := (HSc.out.kept0 hJ.1.gb) 1 _ rfl
            have f2 := (HSc.out.kept0 hJ.1.gb) 2 _ rfl
            have f3 := (HSc.out.kept0 hJ.1.gb) 3 _ rfl
            have f4 := (HSc.out.kept0 hJ.1.gb) 4 _ rfl
            have f5 := (HSc.out.kept0 hJ.1.gb) 5 _ rfl
            simp only [puts, Act.put, List.setIfInBounds_toArray, List.set_cons_zero, List.set_cons_succ] at hbb
            subst hbb
            go_simp
            exact hK.out _ _ (hJ.pure (gb_refl _ _) rfl rfl rfl)
          · intro l t w7 hJ hl hd bb hbb K hK
            simp only [puts, Act.put, List.setIfInBounds_toArray, List.set_cons_zero, List.set_cons_succ] at hbb
            subst hbb
            go_simp
            exact hK.out _ _ (hJ.pure (gb_refl _ _) rfl rfl rfl)
          · intro l t w7 hJ hl hd bb hbb K hK
            simp only [puts, Act.put, List.setIfInBounds_toArray, List.set_cons_zero, List.set_cons_succ] at hbb
            subst hbb
            go_simp
            exact hK.out _ _ (hJ.pure (gb_refl _ _) rfl rfl rfl)
          · intro l t w7 hJ hl hd bb hbb K hK
            have f0 := (HMc.out.kept0 hJ.1.gb) 0 _ rfl
            have f1 := (HMc.out.kept0 hJ.1.gb) 1 _ rfl
            have f2 := (HMc.out.kept0 hJ.1.gb) 2 _ rfl
            have f3 := (HMc.out.kept0 hJ.1.gb) 3 _ rfl
            have f4 := (HMc.out.kept0 hJ.1.gb) 4 _ rfl
            have f5 := (HMc.out.kept0 hJ.1.gb) 5 _ rfl
            simp only [puts, Act.put, List.setIfInBounds_toArray, List.set_cons_zero, List.set_cons_succ] at hbb
            subst hbb
            go_simp
            exact hK.out _ _ (hJ.pure (gb_refl _ _) rfl rfl rfl)
          · intro l t w7 hJ hl hd bb hbb K hK
            simp only [puts, Act.put, List.setIfInBounds_toArray, List.set_cons_zero, List.set_cons_succ] at hbb
            subst hbb
            go_simp
            exact hK.out _ _ (hJ.pure (gb_refl _ _) rfl rfl rfl)
          · intro l t w7 hJ hl hd bb hbb K hK
            simp only [puts, Act.put, List.setIfInBounds_toArray, List.set_cons_zero, List.set_cons_succ] at hbb
            subst hbb
            go_simp
            exact hK.out _ _ (hJ.pure (gb_refl _ _) rfl rfl rfl)
          · intro l t w7 hJ hl hd bb hbb K hK
            simp only [puts, Act.put, List.setIfInBounds_toArray, List.set_cons_zero, List.set_cons_succ] at hbb
            subst hbb
            go_simp
            exact hK.out _ _ (hJ.pure (gb_refl _ _) rfl rfl rfl)
          · intro l t w7 hJ hl hd bb hbb K hK
            have e1 := hJ.1.val 1 _ rfl (hd 1 (by kernel_rfl))
            have e2 := hJ.1.val 2 _ rfl (hd 2 (by kernel_rfl))
            have e3 := hJ.1.val 3 _ rfl (hd 3 (by kernel_rfl))
            have e4 := hJ.1.val 4 _ rfl (hd 4 (by kernel_rfl))
            have e5 := hJ.1.val 5 _ rfl (hd 5 (by kernel_rfl))
            have e6 := hJ.1.val 6 _ rfl (hd 6 (by kernel_rfl))
            have e7 := hJ.1.val 7 _ rfl (hd 7 (by kernel_rfl))
            have e8 := hJ.1.val 8 _ rfl (hd 8 (by kernel_rfl))
            have e9 := hJ.1.val 9 _ rfl (hd 9 (by kernel_rfl))
            simp only [puts, Act.put, List.setIfInBounds_toArray, List.set_cons_zero, List.set_cons_succ] at hbb
            rw [e1] at hbb
            rw [e2] at hbb
            rw [e3] at hbb
            rw [e4] at hbb
            rw [e5] at hbb
            rw [e6] at hbb
            rw [e7] at hbb
            rw [e8] at hbb
            rw [e9] at hbb
            subst hbb
            go_simp
            refine (islow_of (q := resB kk dw (In1 q0 q1 q2 q3 px py qx qy Xd0 Yd0 sx0 sy0 mx0 my0 sh sw mh mw) (fun r c => pxM kk k2 k3 o (toP dw (sz kk) p r c) (srcAt k2 sw s q0 q1 px py Xd0 Yd0 sx0 sy0 r c) (srcAt k3 mw m q0 q1 qx qy Xd0 Yd0 mx0 my0 r c)) p) (by have := HK.out; omega) (HD.out.1.kept0 (gb_trans HGc.out hJ.1.gb)) (HS.out.1.kept0 (gb_trans HGc.out hJ.1.gb)) (HM.out.1.kept0 (gb_trans HGc.out hJ.1.gb)) (vk_dat (by have := HK.out; omega) HV.out HD.out.2.1 hn) HGS.out.2.1 HGM.out.2.1
              (fun w' B B' B'' c c' c'' b b' b'' A A' A'' td ts tm h1 h2 h3 h4 h5 => mdmS_all ho (by have := HK.out; omega) h1 h2 h3 HGD.out.1 HGS.out.1 HGM.out.1 HD.out.2.1 HS.out.2.1 HM.out.2.1 HGS.out.2.2.2.1 h4 h5 (by have h1 := HNR.out; unfold nr at h1; unfold sm; omega) (by have h1 := HNR.out; unfold nr at h1; unfold sm; omega) (by have h1 := HNR.out; have h2 := HXY.out; unfold nr at h1 h2; unfold sm; omega) (by have h1 := HNR.out; have h2 := HXY.out; unfold nr at h1 h2; unfold sm; omega) (by have h1 := HNR.out; have h2 := HXY.out; unfold nr at h1 h2; unfold sm; omega) (by have h1 := HNR.out; have h2 := HXY.out; unfold nr at h1 h2; unfold sm; omega) (by have h1 := HNR.out; have h2 := HXY.out; unfold nr at h1 h2; unfold sm; omega) (by have h1 := HNR.out; have h2 := HXY.out; unfold nr at h1 h2; unfold sm; omega) (by have h1 := HNR.out; have h2 := HXY.out; unfold nr at h1 h2; unfold sm; omega) (by have h1 := HNR.out; have h2 := HXY.out; unfold nr at h1 h2; unfold sm; omega) (by have h1 := HNR.out; unfold nr at h1; unfold sm; omega) (by have h1 := HNR.out; unfold nr at h1; unfold sm; omega))).mono ?_
            rintro e w8 ⟨A8, c8, rfl, ho8, hg⟩
            exact hK.out _ _ (hJ.own hg rfl rfl ((ho8.low hJ.1.gb.size).congr (fun i hi => by rw [← HQ.out]; exact (cutN_lt hi).symm)))
          · intro l t w7 hJ hl hd bb hbb K hK
            have f0 := (HB4.out.kept0 hJ.1.gb) 0 _ rfl
            have f1 := (HB4.out.kept0 hJ.1.gb) 1 _ rfl
            have f2 := (HB4.out.kept0 hJ.1.gb) 2 _ rfl
            have f3 := (HB4.out.kept0 hJ.1.gb) 3 _ rfl
            simp only [puts, Act.put, List.setIfInBounds_toArray, List.set_cons_zero, List.set_cons_succ] at hbb
            subst hbb
            go_simp
            exact hK.out _ _ (hJ.pure (gb_refl _ _) rfl rfl rfl)
          · intro l t w7 hJ hl hd bb hbb K hK
            have f0 := (HP2.out.kept0 hJ.1.gb) 0 _ rfl
            have f1 := (HP2.out.kept0 hJ.1.gb) 1 _ rfl
            simp only [puts, Act.put, List.setIfInBounds_toArray, List.set_cons_zero, List.set_cons_succ] at hbb
            subst hbb
            go_simp
            exact hK.out _ _ (hJ.pure (gb_refl _ _) rfl rfl rfl)
          · intro l t w7 hJ hl hd bb hbb K hK
            have f0 := (HK2.out.kept0 hJ.1.gb) 0 _ rfl
            have f1 := (HK2.out.kept0 hJ.1.gb) 1 _ rfl
            simp only [puts, Act.put, List.setIfInBounds_toArray, List.set_cons_zero, List.set_cons_succ] at hbb
            subst hbb
            go_simp
            exact hK.out _ _ (hJ.pure (gb_refl _ _) rfl rfl rfl)
          · intro l t w7 hJ hl hd bb hbb K hK
            have f0 := (HSc.out.kept0 hJ.1.gb) 0 _ rfl
            have f1 := (HSc.out.kept0 hJ.1.gb) 1 _ rfl
            have f2 := (HSc.out.kept0 hJ.1.gb) 2 _ rfl
            have f3 := (HSc.out.kept0 hJ.1.gb) 3 _ rfl
            have f4 := (HSc.out.kept0 hJ.1.gb) 4 _ rfl
            have f5 := (HSc.out.kept0 hJ.1.gb) 5 _ rfl
            simp only [puts, Act.put, List.setIfInBounds_toArray, List.set_cons_zero, List.set_cons_succ] at hbb
            subst hbb
            go_simp
            exact hK.out _ _ (hJ.pure (gb_refl _ _) rfl rfl rfl)
          · intro l t w7 hJ hl hd bb hbb K hK
            simp only [puts, Act.put, List.setIfInBounds_toArray, List.set_cons_zero, List.set_cons_succ] at hbb
            subst hbb
            go_simp
            exact hK.out _ _ (hJ.pure (gb_refl _ _) rfl rfl rfl)
          · intro l t w7 hJ hl hd bb hbb K hK
            obtain ⟨A8, c8, e10, ho8⟩ := hJ.2 (hd 10 (by kernel_rfl))
            have e0 := hJ.1.val 0 _ rfl (hd 0 (by kernel_rfl))
            have e11 := hJ.1.val 11 _ rfl (hd 11 (by kernel_rfl))
            have e12 := hJ.1.val 12 _ rfl (hd 12 (by kernel_rfl))
            have e13 := hJ.1.val 13 _ rfl (hd 13 (by kernel_rfl))
            have e14 := hJ.1.val 14 _ rfl (hd 14 (by kernel_rfl))
            have e15 := hJ.1.val 15 _ rfl (hd 15 (by kernel_rfl))
            simp only [puts, Act.put, List.setIfInBounds_toArray, List.set_cons_zero, List.set_cons_succ] at hbb
            rw [e0] at hbb
            rw [e10] at hbb
            rw [e11] at hbb
            rw [e12] at hbb
            rw [e13] at hbb
            rw [e14] at hbb
            rw [e15] at hbb
            subst hbb
            go_simp
            obtain ⟨gq1, gq2⟩ := ho8.le
            obtain ⟨lawB, law1, law2⟩ := draw1_law (kd := kk) (ks := k2) (km := k3) (op := o) (X0 := X0) (Y0 := Y0) (Xm0 := Xm0) (Ym0 := Ym0) (by have := HK.out; omega) HD.out.2.1 HS.out.2.1 HM.out.2.1 HGS.out.2.2.2.1 HC3.out (by have := HGS.out.2.2.2.2; omega) (by have := HGM.out.2.2.2; omega)
            rw [← HGD.out.2.2.2.1, HQ.out] at lawB law1 law2
            refine (drawnM_c _ HK.out ho (HD.out.1.kept0 (gb_trans HGc.out hJ.1.gb)) ho8.rd (HS.out.1.kept0 (gb_trans HGc.out hJ.1.gb)) HD.out.2.1 lawB HS.out.2.1 HD.out.2.2.2.1 HD.out.2.2.2.2 gq1 gq2 HS.out.2.2.2.1 HS.out.2.2.2.2 HGD.out.2.1 HGD.out.2.2.1 HGD.out.2.2.2.1 HGD.out.2.2.2.2.1 HGD.out.2.2.2.2.2.1 (by have := HGD.out.2.2.2.2.2.2; omega) HGS.out.2.2.1 (pm_src HGS.out.2.2.2.1) (cl1_small HC.out).1 (HMc.out.kept0 hJ.1.gb) (HM.out.1.kept0 (gb_trans HGc.out hJ.1.gb)) HM.out.2.1 HM.out.2.2.2.1 HM.out.2.2.2.2 HGM.out.2.2.1 (cl1_small HC.out).2 law1 law2).mono ?_
            rintro e w8 ⟨rfl, hg⟩
            exact hK.out _ _ (hJ.pure hg rfl rfl rfl)
          · intro l t w7 hJ hl hd bb hbb K hK
            have e16 := hJ.1.val 16 _ rfl (hd 16 (by kernel_rfl))
            simp only [puts, Act.put, List.setIfInBounds_toArray, List.set_cons_zero, List.set_cons_succ] at hbb
            rw [e16] at hbb
            subst hbb
            go_simp
            exact hK.out _ _ (hJ.pure (gb_refl _ _) rfl rfl rfl)
        intro l t w9 hJ hl
        have e17 := hJ.1.val 17 _ rfl (hl 17 (by decide))
        have HG9 := hid (gb_trans HGc.out hJ.1.gb)
        clear hJ hl
        simp only [puts, Act.put, List.setIfInBounds_toArray, List.set_cons_zero, List.set_cons_succ]
        rw [e17]
        clear e17
        go_wp2_with fail
        go_ret
        exact ⟨rfl, HG9.out⟩
      · go_enter Tryz.func6, Tryz.ntmps6
        go_wp2_with fail
        refine (fits_y _ hn).mono ?_
        rintro e w1 ⟨rfl, hg⟩
        have hh1 := gb_trans (a := w) (by (repeat (first | exact gb_refl _ _ | assumption | refine gb_drew ?_ | refine gb_drewN ?_ _ | refine gb_alloc ?_ _ | refine gb_setCell ?_ (.inr (by simp <;> omega)) _))) hg
        have HG1 := hid hh1
        have hS : CellsAt w1 (w.heap.size + 1 + 1) [.int .i64 ks, .int .i64 X0, .int .i64 Y0, .int .i64 X1, .int .i64 Y1, .slice As n' cs] := CellsAt.kept0 (fun i v hv => by (rcases i with _ | _ | _ | _ | _ | _ | i <;> (first | (cases hv; go_simp; done) | (simp at hv; done)))) hg
        have HS1 := hid hS
        clear hS
        have zS := HS1.out.lt
        have hM : CellsAt w1 (w.heap.size + 1 + 1 + 1) [.int .i64 km, .int .i64 Xm0, .int .i64 Ym0, .int .i64 Xm1, .int .i64 Ym1, .slice Am n'' cm] := CellsAt.kept0 (fun i v hv => by (rcases i with _ | _ | _ | _ | _ | _ | i <;> (first | (cases hv; go_simp; done) | (simp at hv; done)))) hg
        have HM1 := hid hM
        clear hM
        have zM := HM1.out.lt
        clear hg hh1
        have s0' := HS1.out 0 _ rfl
        have s1' := HS1.out 1 _ rfl
        have s2' := HS1.out 2 _ rfl
        have s3' := HS1.out 3 _ rfl
        have s4' := HS1.out 4 _ rfl
        have s5' := HS1.out 5 _ rfl
        go_wp2_with fail
        refine (fits_y _ hn').mono ?_
        rintro e w2 ⟨rfl, hg⟩
        have hh2 := gb_trans (a := w1) (by (repeat (first | exact gb_refl _ _ | assumption | refine gb_drew ?_ | refine gb_drewN ?_ _ | refine gb_alloc ?_ _ | refine gb_setCell ?_ (.inr (by simp <;> omega)) _))) hg
        have HG2 := hid (gb_trans HG1.out hh2)
        clear zS zM
        have HS2 := hid (HS1.out.kept0 hh2)
        have zS := HS2.out.lt
        have HM2 := hid (HM1.out.kept0 hh2)
        have zM := HM2.out.lt
        clear s0' s1' s2' s3' s4' s5'
        clear hg hh2
        have m0' := HM2.out 0 _ rfl
        have m1' := HM2.out 1 _ rfl
        have m2' := HM2.out 2 _ rfl
        have m3' := HM2.out 3 _ rfl
        have m4' := HM2.out 4 _ rfl
        have m5' := HM2.out 5 _ rfl
        go_wp2_with fail
        refine (fits_n _ hn'').mono ?_
        rintro e w3 ⟨rfl, hg⟩
        have hh3 := gb_trans (a := w2) (by (repeat (first | exact gb_refl _ _ | assumption | refine gb_drew ?_ | refine gb_drewN ?_ _ | refine gb_alloc ?_ _ | refine gb_setCell ?_ (.inr (by simp <;> omega)) _))) hg
        have HG3 := hid (gb_trans HG2.out hh3)
        clear zS zM
        have HS3 := hid (HS2.out.kept0 hh3)
        have zS := HS3.out.lt
        have HM3 := hid (HM2.out.kept0 hh3)
        have zM := HM3.out.lt
        clear m0' m1' m2' m3' m4' m5'
        clear hg hh3
        go_wp2_with fail
        go_ret
        exact ⟨rfl, HG3.out⟩
    · go_enter Tryz.func6, Tryz.ntmps6
      go_wp2_with fail
      refine (fits_y _ hn).mono ?_
      rintro e w1 ⟨rfl, hg⟩
      have hh1 := gb_trans (a := w) (by (repeat (first | exact gb_refl _ _ | assumption | refine gb_drew ?_ | refine gb_drewN ?_ _ | refine gb_alloc ?_ _ | refine gb_setCell ?_ (.inr (by simp <;> omega)) _))) hg
      have HG1 := hid hh1
      have hS : CellsAt w1 (w.heap.size + 1 + 1) [.int .i64 ks, .int .i64 X0, .int .i64 Y0, .int .i64 X1, .int .i64 Y1, .slice As n' cs] := CellsAt.kept0 (fun i v hv => by (rcases i with _ | _ | _ | _ | _ | _ | i <;> (first | (cases hv; go_simp; done) | (simp at hv; done)))) hg
      have HS1 := hid hS
      clear hS
      have zS := HS1.out.lt
      clear hg hh1
      have s0' := HS1.out 0 _ rfl
      have s1' := HS1.out 1 _ rfl
      have s2' := HS1.out 2 _ rfl
      have s3' := HS1.out 3 _ rfl
      have s4' := HS1.out 4 _ rfl
      have s5' := HS1.out 5 _ rfl
      go_wp2_with fail
      refine (fits_n _ hn').mono ?_
      rintro e w2 ⟨rfl, hg⟩
      have hh2 := gb_trans (a := w1) (by (repeat (first | exact gb_refl _ _ | assumption | refine gb_drew ?_ | refine gb_drewN ?_ _ | refine gb_alloc ?_ _ | refine gb_setCell ?_ (.inr (by simp <;> omega)) _))) hg
      have HG2 := hid (gb_trans HG1.out hh2)
      clear zS
      have HS2 := hid (HS1.out.kept0 hh2)
      have zS := HS2.out.lt
      clear s0' s1' s2' s3' s4' s5'
      clear hg hh2
      go_wp2_with fail
      go_ret
      exact ⟨rfl, HG2.out⟩
  · go_enter Tryz.func6, Tryz.ntmps6
    go_wp2_with fail
    refine (fits_n _ hn).mono ?_
    rintro e w1 ⟨rfl, hg⟩
    have hh1 := gb_trans (a := w) (by (repeat (first | exact gb_refl _ _ | assumption | refine gb_drew ?_ | refine gb_drewN ?_ _ | refine gb_alloc ?_ _ | refine gb_setCell ?_ (.inr (by simp <;> omega)) _))) hg
    have HG1 := hid hh1
    clear hg hh1
    go_wp2_with fail
    go_ret
    exact ⟨rfl, HG1.out⟩
end Go.Proofs.YtgjpohmjkhgpfaaGreat
