/- The law FnMoved: its walk. No condition. -/
import Derived.Test.YtgjpohmjkhgpfaaGreatHLMV
set_option linter.unusedSimpArgs false
set_option linter.unusedVariables false
namespace Go.Proofs.YtgjpohmjkhgpfaaGreat
open Go.RowKit

set_option maxRecDepth 100000 in
set_option maxHeartbeats 8000000 in
theorem moved_walk {kd ks km Xd0 Yd0 Xd1 Yd1 X0 Y0 X1 Y1 Xm0 Ym0 Xm1 Ym1 r0 r1 r2 r3 px py qx qy op bb0 bb1 bb2 bb3 bb4 bb5 : Int} {Ad As Am : Option Addr} {n n' n'' cd cs cm : Nat} {p s m : Nat → Int} (w : World) (hd : InI w Ad n cd p) (hs : InI w As n' cs s) (hm : InI w Am n'' cm m) :
    Calls Tryz.prog 5 #[vI kd Xd0 Yd0 Xd1 Yd1 Ad n cd, vR r0 r1 r2 r3, vI ks X0 Y0 X1 Y1 As n' cs, .int .i64 px, .int .i64 py, vI km Xm0 Ym0 Xm1 Ym1 Am n'' cm, .int .i64 qx, .int .i64 qy, .int .i64 op, .agg #[.int .i64 bb0, .int .i64 bb1, .int .i64 bb2, .int .i64 bb3, .int .i64 bb4, .int .i64 bb5]] w fun e w' => e = .returned (.bool true) ∧ w.grownBy w' none := by
  have HD := hid hd
  have HS := hid hs
  have HM := hid hm
  clear hd hs hm
  by_cases hn : n ≤ 2147483647
  · by_cases hn' : n' ≤ 2147483647
    · by_cases hn'' : n'' ≤ 2147483647
      · go_enter Tryz.func5, Tryz.ntmps5
        go_wp2_with fail
        refine (fits_y _ hn).mono ?_
        rintro e w1 ⟨rfl, hg⟩
        have hh1 := gb_trans (a := w) (by (repeat (first | exact gb_refl _ _ | assumption | refine gb_drew ?_ | refine gb_drewN ?_ _ | refine gb_alloc ?_ _ | refine gb_setCell ?_ (.inr (by simp <;> omega)) _))) hg
        have HG1 := hid hh1
        have hA : CellsAt w1 w.heap.size [.int .i64 kd, .int .i64 Xd0, .int .i64 Yd0, .int .i64 Xd1, .int .i64 Yd1, .slice Ad n cd] := CellsAt.kept0 (fun i v hv => by (rcases i with _ | _ | _ | _ | _ | _ | i <;> (first | (cases hv; go_simp; done) | (simp at hv; done)))) hg
        have HA1 := hid hA
        clear hA
        have zA := HA1.out.lt
        have hR : CellsAt w1 (w.heap.size + 1) [.int .i64 r0, .int .i64 r1, .int .i64 r2, .int .i64 r3] := CellsAt.kept0 (fun i v hv => by (rcases i with _ | _ | _ | _ | i <;> (first | (cases hv; go_simp; done) | (simp at hv; done)))) hg
        have HR1 := hid hR
        clear hR
        have zR := HR1.out.lt
        have hS : CellsAt w1 (w.heap.size + 1 + 1) [.int .i64 ks, .int .i64 X0, .int .i64 Y0, .int .i64 X1, .int .i64 Y1, .slice As n' cs] := CellsAt.kept0 (fun i v hv => by (rcases i with _ | _ | _ | _ | _ | _ | i <;> (first | (cases hv; go_simp; done) | (simp at hv; done)))) hg
        have HS1 := hid hS
        clear hS
        have zS := HS1.out.lt
        have hM : CellsAt w1 (w.heap.size + 1 + 1 + 1) [.int .i64 km, .int .i64 Xm0, .int .i64 Ym0, .int .i64 Xm1, .int .i64 Ym1, .slice Am n'' cm] := CellsAt.kept0 (fun i v hv => by (rcases i with _ | _ | _ | _ | _ | _ | i <;> (first | (cases hv; go_simp; done) | (simp at hv; done)))) hg
        have HM1 := hid hM
        clear hM
        have zM := HM1.out.lt
        have hB : CellsAt w1 (w.heap.size + 1 + 1 + 1 + 1) [.int .i64 bb0, .int .i64 bb1, .int .i64 bb2, .int .i64 bb3, .int .i64 bb4, .int .i64 bb5] := CellsAt.kept0 (fun i v hv => by (rcases i with _ | _ | _ | _ | _ | _ | i <;> (first | (cases hv; go_simp; done) | (simp at hv; done)))) hg
        have HB1 := hid hB
        clear hB
        have zB := HB1.out.lt
        clear hg hh1
        have s0' := HS1.out 0 _ rfl
        have s1' := HS1.out 1 _ rfl
        have s2' := HS1.out 2 _ rfl
        have s3' := HS1.out 3 _ rfl
        have s4' := HS1.out 4 _ rfl
        have s5' := HS1.out 5 _ rfl
        go_wp2_with fail
        refine (fits_y _ hn').mono ?_
        rintro e w2 ⟨rfl, hg⟩
        have hh2 := gb_trans (a := w1) (by (repeat (first | exact gb_refl _ _ | assumption | refine gb_drew ?_ | refine gb_drewN ?_ _ | refine gb_alloc ?_ _ | refine gb_setCell ?_ (.inr (by simp <;> omega)) _))) hg
        have HG2 := hid (gb_trans HG1.out hh2)
        clear zA zR zS zM zB
        have HA2 := hid (HA1.out.kept0 hh2)
        have zA := HA2.out.lt
        have HR2 := hid (HR1.out.kept0 hh2)
        have zR := HR2.out.lt
        have HS2 := hid (HS1.out.kept0 hh2)
        have zS := HS2.out.lt
        have HM2 := hid (HM1.out.kept0 hh2)
        have zM := HM2.out.lt
        have HB2 := hid (HB1.out.kept0 hh2)
        have zB := HB2.out.lt
        clear s0' s1' s2' s3' s4' s5'
        clear hg hh2
        have m0' := HM2.out 0 _ rfl
        have m1' := HM2.out 1 _ rfl
        have m2' := HM2.out 2 _ rfl
        have m3' := HM2.out 3 _ rfl
        have m4' := HM2.out 4 _ rfl
        have m5' := HM2.out 5 _ rfl
        go_wp2_with fail
        refine (fits_y _ hn'').mono ?_
        rintro e w3 ⟨rfl, hg⟩
        have hh3 := gb_trans (a := w2) (by (repeat (first | exact gb_refl _ _ | assumption | refine gb_drew ?_ | refine gb_drewN ?_ _ | refine gb_alloc ?_ _ | refine gb_setCell ?_ (.inr (by simp <;> omega)) _))) hg
        have HG3 := hid (gb_trans HG2.out hh3)
        clear zA zR zS zM zB
        have HA3 := hid (HA2.out.kept0 hh3)
        have zA := HA3.out.lt
        have HR3 := hid (HR2.out.kept0 hh3)
        have zR := HR3.out.lt
        have HS3 := hid (HS2.out.kept0 hh3)
        have zS := HS3.out.lt
        have HM3 := hid (HM2.out.kept0 hh3)
        have zM := HM3.out.lt
        have HB3 := hid (HB2.out.kept0 hh3)
        have zB := HB3.out.lt
        clear m0' m1' m2' m3' m4' m5'
        clear hg hh3
        have r0' := HR3.out 0 _ rfl
        have r1' := HR3.out 1 _ rfl
        have r2' := HR3.out 2 _ rfl
        have r3' := HR3.out 3 _ rfl
        go_wp2_with fail
        refine (lrect_c r0 r1 r2 r3 _).mono ?_
        rintro e w4 ⟨b, q0, q1, q2, q3, rfl, hb, hg⟩
        have hh4 := gb_trans (a := w3) (by (repeat (first | exact gb_refl _ _ | assumption | refine gb_drew ?_ | refine gb_drewN ?_ _ | refine gb_alloc ?_ _ | refine gb_setCell ?_ (.inr (by simp <;> omega)) _))) hg
        have HG4 := hid (gb_trans HG3.out hh4)
        clear zA zR zS zM zB
        have HA4 := hid (HA3.out.kept0 hh4)
        have zA := HA4.out.lt
        have HR4 := hid (HR3.out.kept0 hh4)
        have zR := HR4.out.lt
        have HS4 := hid (HS3.out.kept0 hh4)
        have zS := HS4.out.lt
        have HM4 := hid (HM3.out.kept0 hh4)
        have zM := HM4.out.lt
        have HB4 := hid (HB3.out.kept0 hh4)
        have zB := HB4.out.lt
        clear r0' r1' r2' r3'
        clear hg hh4
        cases b
        · go_wp2_with fail
          go_ret
          exact ⟨rfl, gb_trans HG4.out (by (repeat (first | exact gb_refl _ _ | assumption | refine gb_drew ?_ | refine gb_drewN ?_ _ | refine gb_alloc ?_ _ | refine gb_setCell ?_ (.inr (by simp <;> omega)) _)))⟩
        obtain ⟨hr, rfl, rfl, rfl, rfl⟩ := hb rfl
        have HNR := hid hr
        clear hr hb
        have a0' := HA4.out 0 _ rfl
        have a1' := HA4.out 1 _ rfl
        have a2' := HA4.out 2 _ rfl
        have a3' := HA4.out 3 _ rfl
        have a4' := HA4.out 4 _ rfl
        have a5' := HA4.out 5 _ rfl
        go_wp2_with fail
        refine (target_c _ (HD.out.1.kept0 (gb_trans HG4.out (by (repeat (first | exact gb_refl _ _ | assumption | refine gb_drew ?_ | refine gb_drewN ?_ _ | refine gb_alloc ?_ _ | refine gb_setCell ?_ (.inr (by simp <;> omega)) _))))) HD.out.2.1 hn HD.out.2.2.2.1 HD.out.2.2.2.2).mono ?_
        rintro e w5 ⟨b, rfl, hb, hg⟩
        have hh5 := gb_trans (a := w4) (by (repeat (first | exact gb_refl _ _ | assumption | refine gb_drew ?_ | refine gb_drewN ?_ _ | refine gb_alloc ?_ _ | refine gb_setCell ?_ (.inr (by simp <;> omega)) _))) hg
        have HG5 := hid (gb_trans HG4.out hh5)
        clear zA zR zS zM zB
        have HA5 := hid (HA4.out.kept0 hh5)
        have zA := HA5.out.lt
        have HR5 := hid (HR4.out.kept0 hh5)
        have zR := HR5.out.lt
        have HS5 := hid (HS4.out.kept0 hh5)
        have zS := HS5.out.lt
        have HM5 := hid (HM4.out.kept0 hh5)
        have zM := HM5.out.lt
        have HB5 := hid (HB4.out.kept0 hh5)
        have zB := HB5.out.lt
        clear a0' a1' a2' a3' a4' a5'
        have hT : CellsAt w5 w4.heap.size [.int .i64 q0, .int .i64 q1, .int .i64 q2, .int .i64 q3] := CellsAt.kept0 (fun i v hv => by (rcases i with _ | _ | _ | _ | i <;> (first | (cases hv; go_simp; done) | (simp at hv; done)))) hg
        have HT5 := hid hT
        clear hT
        have zT := HT5.out.lt
        clear hg hh5
        cases b
        · go_wp2_with fail
          go_ret
          exact ⟨rfl, gb_trans HG5.out (by (repeat (first | exact gb_refl _ _ | assumption | refine gb_drew ?_ | refine gb_drewN ?_ _ | refine gb_alloc ?_ _ | refine gb_setCell ?_ (.inr (by simp <;> omega)) _)))⟩
        obtain ⟨kk, rfl, hkk, hv⟩ := hb rfl
        have HV := hid hv
        have HK := hid hkk
        clear hb hv hkk
        have s0' := HS5.out 0 _ rfl
        have s1' := HS5.out 1 _ rfl
        have s2' := HS5.out 2 _ rfl
        have s3' := HS5.out 3 _ rfl
        have s4' := HS5.out 4 _ rfl
        have s5' := HS5.out 5 _ rfl
        go_wp2_with fail
        refine (valid_c _ (HS.out.1.kept0 (gb_trans HG5.out (by (repeat (first | exact gb_refl _ _ | assumption | refine gb_drew ?_ | refine gb_drewN ?_ _ | refine gb_alloc ?_ _ | refine gb_setCell ?_ (.inr (by simp <;> omega)) _))))) HS.out.2.1 hn' HS.out.2.2.2.1 HS.out.2.2.2.2).mono ?_
        rintro e w6 ⟨b, rfl, hb, hg⟩
        have hh6 := gb_trans (a := w5) (by (repeat (first | exact gb_refl _ _ | assumption | refine gb_drew ?_ | refine gb_drewN ?_ _ | refine gb_alloc ?_ _ | refine gb_setCell ?_ (.inr (by simp <;> omega)) _))) hg
        have HG6 := hid (gb_trans HG5.out hh6)
        clear zA zR zS zM zB zT
        have HA6 := hid (HA5.out.kept0 hh6)
        have zA := HA6.out.lt
        have HR6 := hid (HR5.out.kept0 hh6)
        have zR := HR6.out.lt
        have HS6 := hid (HS5.out.kept0 hh6)
        have zS := HS6.out.lt
        have HM6 := hid (HM5.out.kept0 hh6)
        have zM := HM6.out.lt
        have HB6 := hid (HB5.out.kept0 hh6)
        have zB := HB6.out.lt
        have HT6 := hid (HT5.out.kept0 hh6)
        have zT := HT6.out.lt
        clear s0' s1' s2' s3' s4' s5'
        clear hg hh6
        cases b
        · go_wp2_with fail
          go_ret
          exact ⟨rfl, gb_trans HG6.out (by (repeat (first | exact gb_refl _ _ | assumption | refine gb_drew ?_ | refine gb_drewN ?_ _ | refine gb_alloc ?_ _ | refine gb_setCell ?_ (.inr (by simp <;> omega)) _)))⟩
        obtain ⟨k2, rfl, hv⟩ := hb rfl
        have HVS := hid hv
        clear hb hv
        have m0' := HM6.out 0 _ rfl
        have m1' := HM6.out 1 _ rfl
        have m2' := HM6.out 2 _ rfl
        have m3' := HM6.out 3 _ rfl
        have m4' := HM6.out 4 _ rfl
        have m5' := HM6.out 5 _ rfl
        go_wp2_with fail
        refine (valid_c _ (HM.out.1.kept0 (gb_trans HG6.out (by (repeat (first | exact gb_refl _ _ | assumption | refine gb_drew ?_ | refine gb_drewN ?_ _ | refine gb_alloc ?_ _ | refine gb_setCell ?_ (.inr (by simp <;> omega)) _))))) HM.out.2.1 hn'' HM.out.2.2.2.1 HM.out.2.2.2.2).mono ?_
        rintro e w7 ⟨b, rfl, hb, hg⟩
        have hh7 := gb_trans (a := w6) (by (repeat (first | exact gb_refl _ _ | assumption | refine gb_drew ?_ | refine gb_drewN ?_ _ | refine gb_alloc ?_ _ | refine gb_setCell ?_ (.inr (by simp <;> omega)) _))) hg
        have HG7 := hid (gb_trans HG6.out hh7)
        clear zA zR zS zM zB zT
        have HA7 := hid (HA6.out.kept0 hh7)
        have zA := HA7.out.lt
        have HR7 := hid (HR6.out.kept0 hh7)
        have zR := HR7.out.lt
        have HS7 := hid (HS6.out.kept0 hh7)
        have zS := HS7.out.lt
        have HM7 := hid (HM6.out.kept0 hh7)
        have zM := HM7.out.lt
        have HB7 := hid (HB6.out.kept0 hh7)
        have zB := HB7.out.lt
        have HT7 := hid (HT6.out.kept0 hh7)
        have zT := HT7.out.lt
        clear m0' m1' m2' m3' m4' m5'
        clear hg hh7
        cases b
        · go_wp2_with fail
          go_ret
          exact ⟨rfl, gb_trans HG7.out (by (repeat (first | exact gb_refl _ _ | assumption | refine gb_drew ?_ | refine gb_drewN ?_ _ | refine gb_alloc ?_ _ | refine gb_setCell ?_ (.inr (by simp <;> omega)) _)))⟩
        obtain ⟨k3, rfl, hv⟩ := hb rfl
        have HVM := hid hv
        clear hb hv
        go_wp2_with fail
        refine (fine_c (n := 4) (l := fun i => if i = 0 then px else if i = 1 then py else if i = 2 then qx else qy) _ (fun i hi => ?_) (by omega)).mono ?_
        · have hi' : i = 0 ∨ i = 1 ∨ i = 2 ∨ i = 3 := by omega
          rcases hi' with rfl | rfl | rfl | rfl <;> go_simp
        rintro e w8 ⟨⟨b, rfl, hb⟩, rfl⟩
        cases b
        · go_wp2_with fail
          go_ret
          exact ⟨rfl, gb_trans HG7.out (by (repeat (first | exact gb_refl _ _ | assumption | refine gb_drew ?_ | refine gb_drewN ?_ _ | refine gb_alloc ?_ _ | refine gb_setCell ?_ (.inr (by simp <;> omega)) _)))⟩
        have hpx : nr px := hb rfl 0 (by omega)
        have hpy : nr py := hb rfl 1 (by omega)
        have hqx : nr qx := hb rfl 2 (by omega)
        have hqy : nr qy := hb rfl 3 (by omega)
        have HXY := hid (And.intro hpx (And.intro hpy (And.intro hqx hqy)))
        clear hb hpx hpy hqx hqy
        have b0' := HB7.out 0 _ rfl
        have b1' := HB7.out 1 _ rfl
        have b2' := HB7.out 2 _ rfl
        have b3' := HB7.out 3 _ rfl
        have b4' := HB7.out 4 _ rfl
        have b5' := HB7.out 5 _ rfl
        go_wp2_with fail
        refine (fine_c (n := 6) (l := fun i => if i = 0 then bb0 else if i = 1 then bb1 else if i = 2 then bb2 else if i = 3 then bb3 else if i = 4 then bb4 else bb5) _ (fun i hi => ?_) (by omega)).mono ?_
        · have hi' : i = 0 ∨ i = 1 ∨ i = 2 ∨ i = 3 ∨ i = 4 ∨ i = 5 := by omega
          rcases hi' with rfl | rfl | rfl | rfl | rfl | rfl <;> go_simp
        rintro e w9 ⟨⟨b, rfl, hb⟩, rfl⟩
        clear b0' b1' b2' b3' b4' b5'
        cases b
        · go_wp2_with fail
          go_ret
          exact ⟨rfl, gb_trans HG7.out (by (repeat (first | exact gb_refl _ _ | assumption | refine gb_drew ?_ | refine gb_drewN ?_ _ | refine gb_alloc ?_ _ | refine gb_setCell ?_ (.inr (by simp <;> omega)) _)))⟩
        have hbb0 : nr bb0 := hb rfl 0 (by omega)
        have hbb1 : nr bb1 := hb rfl 1 (by omega)
        have hbb2 : nr bb2 := hb rfl 2 (by omega)
        have hbb3 : nr bb3 := hb rfl 3 (by omega)
        have hbb4 : nr bb4 := hb rfl 4 (by omega)
        have hbb5 : nr bb5 := hb rfl 5 (by omega)
        have HBB := hid (And.intro hbb0 (And.intro hbb1 (And.intro hbb2 (And.intro hbb3 (And.intro hbb4 hbb5)))))
        clear hb hbb0 hbb1 hbb2 hbb3 hbb4 hbb5
        obtain ⟨o, ho, hand⟩ := and1 op
        obtain ⟨dh, dw, GD, gx, gy, gm, gw, gh, v1, v2, v3, v4⟩ := vk_geo (by have := HK.out; omega) HV.out
        have HGD := hid (And.intro GD (And.intro gx (And.intro gy (And.intro gm (And.intro gw (And.intro gh (And.intro v1 (And.intro v2 (And.intro v3 v4)))))))))
        obtain ⟨hk6, hpm, sh, sw, sx0, sy0, sx1, sy1, GS, DS, AS, t1, t2, hX, hB⟩ := vk_all HVS.out HS.out.2.1 HS.out.2.2.1 hn'
        have HGS := hid (And.intro GS (And.intro DS (And.intro AS (And.intro hpm hX))))
        obtain ⟨hk7, hpm', mh, mw, mx0, my0, mx1, my1, GM, DM, AM, t3, t4, hX', hB'⟩ := vk_all HVM.out HM.out.2.1 HM.out.2.2.1 hn''
        have HGM := hid (And.intro GM (And.intro DM (And.intro AM hX')))
        clear GD gx gy gm gw gh v1 v2 v3 v4 GS DS AS hpm hX t1 t2 hB GM DM AM hpm' hX' t3 t4 hB'
        have a0' := HA7.out 0 _ rfl
        have a1' := HA7.out 1 _ rfl
        have a2' := HA7.out 2 _ rfl
        have a3' := HA7.out 3 _ rfl
        have a4' := HA7.out 4 _ rfl
        have a5' := HA7.out 5 _ rfl
        have r0' := HR7.out 0 _ rfl
        have r1' := HR7.out 1 _ rfl
        have r2' := HR7.out 2 _ rfl
        have r3' := HR7.out 3 _ rfl
        have s0' := HS7.out 0 _ rfl
        have s1' := HS7.out 1 _ rfl
        have s2' := HS7.out 2 _ rfl
        have s3' := HS7.out 3 _ rfl
        have s4' := HS7.out 4 _ rfl
        have s5' := HS7.out 5 _ rfl
        have m0' := HM7.out 0 _ rfl
        have m1' := HM7.out 1 _ rfl
        have m2' := HM7.out 2 _ rfl
        have m3' := HM7.out 3 _ rfl
        have m4' := HM7.out 4 _ rfl
        have m5' := HM7.out 5 _ rfl
        go_wp2_with fail
        refine (idrawmask_of (q := resB kk dw (In1 q0 q1 q2 q3 px py qx qy Xd0 Yd0 sx0 sy0 mx0 my0 sh sw mh mw) (fun r c => pxM kk k2 k3 o (toP dw (sz kk) p r c) (srcAt k2 sw s q0 q1 px py Xd0 Yd0 sx0 sy0 r c) (srcAt k3 mw m q0 q1 qx qy Xd0 Yd0 mx0 my0 r c)) p) (by have := HK.out; omega) (HD.out.1.kept0 (gb_trans HG7.out (by (repeat (first | exact gb_refl _ _ | assumption | refine gb_drew ?_ | refine gb_drewN ?_ _ | refine gb_alloc ?_ _ | refine gb_setCell ?_ (.inr (by simp <;> omega)) _))))) (HS.out.1.kept0 (gb_trans HG7.out (by (repeat (first | exact gb_refl _ _ | assumption | refine gb_drew ?_ | refine gb_drewN ?_ _ | refine gb_alloc ?_ _ | refine gb_setCell ?_ (.inr (by simp <;> omega)) _))))) (HM.out.1.kept0 (gb_trans HG7.out (by (repeat (first | exact gb_refl _ _ | assumption | refine gb_drew ?_ | refine gb_drewN ?_ _ | refine gb_alloc ?_ _ | refine gb_setCell ?_ (.inr (by simp <;> omega)) _))))) (vk_dat (by have := HK.out; omega) HV.out HD.out.2.1 hn) HGS.out.2.1 HGM.out.2.1 (fun w' B B' B'' c c' c'' b b' b'' A A' A'' td ts tm h1 h2 h3 h4 h5 => mdm1_all ho (by have := HK.out; omega) h1 h2 h3 HGD.out.1 HGS.out.1 HGM.out.1 HD.out.2.1 HS.out.2.1 HM.out.2.1 HGS.out.2.2.2.1 h4 h5 (by have h1 := HNR.out; unfold nr at h1; unfold sm; omega) (by have h1 := HNR.out; unfold nr at h1; unfold sm; omega) (by have h1 := HNR.out; have h2 := HXY.out; unfold nr at h1 h2; unfold sm; omega) (by have h1 := HNR.out; have h2 := HXY.out; unfold nr at h1 h2; unfold sm; omega) (by have h1 := HNR.out; have h2 := HXY.out; unfold nr at h1 h2; unfold sm; omega) (by have h1 := HNR.out; have h2 := HXY.out; unfold nr at h1 h2; unfold sm; omega) (by have h1 := HNR.out; have h2 := HXY.out; unfold nr at h1 h2; unfold sm; omega) (by have h1 := HNR.out; have h2 := HXY.out; unfold nr at h1 h2; unfold sm; omega) (by have h1 := HNR.out; have h2 := HXY.out; unfold nr at h1 h2; unfold sm; omega) (by have h1 := HNR.out; have h2 := HXY.out; unfold nr at h1 h2; unfold sm; omega) (by have h1 := HNR.out; unfold nr at h1; unfold sm; omega) (by have h1 := HNR.out; unfold nr at h1; unfold sm; omega))).mono ?_
        rintro e w8 ⟨A9, c9, rfl, ho9, hg⟩
        have hh8 := gb_trans (a := w7) (by (repeat (first | exact gb_refl _ _ | assumption | refine gb_drew ?_ | refine gb_drewN ?_ _ | refine gb_alloc ?_ _ | refine gb_setCell ?_ (.inr (by simp <;> omega)) _))) hg
        have HG8 := hid (gb_trans HG7.out hh8)
        clear zA zR zS zM zB zT
        have HA8 := hid (HA7.out.kept0 hh8)
        have zA := HA8.out.lt
        have HR8 := hid (HR7.out.kept0 hh8)
        have zR := HR8.out.lt
        have HS8 := hid (HS7.out.kept0 hh8)
        have zS := HS8.out.lt
        have HM8 := hid (HM7.out.kept0 hh8)
        have zM := HM8.out.lt
        have HB8 := hid (HB7.out.kept0 hh8)
        have zB := HB8.out.lt
        have HT8 := hid (HT7.out.kept0 hh8)
        have zT := HT8.out.lt
        clear a0' a1' a2' a3' a4' a5' r0' r1' r2' r3' s0' s1' s2' s3' s4' s5' m0' m1' m2' m3' m4' m5'
        obtain ⟨q, hq⟩ : ∃ q, resB kk dw (In1 q0 q1 q2 q3 px py qx qy Xd0 Yd0 sx0 sy0 mx0 my0 sh sw mh mw) (fun r c => pxM kk k2 k3 o (toP dw (sz kk) p r c) (srcAt k2 sw s q0 q1 px py Xd0 Yd0 sx0 sy0 r c) (srcAt k3 mw m q0 q1 qx qy Xd0 Yd0 mx0 my0 r c)) p = q := ⟨_, rfl⟩
        rw [hq] at ho9
        have HQ := hid hq
        have HO9 := hid ho9
        have hle9 := ho9.le
        clear ho9 hq hg hh8
        go_upto_region 8 with fail
        refine wp_region_inv (JV w8 [some (vI kk Xd0 Yd0 Xd1 Yd1 Ad n cd), some (.pointer (some ⟨(w.heap.size + 1 + 1 + 1 + 1), 0, none⟩)), some (.int .i64 bb0), some (.pointer (some ⟨(w.heap.size + 1 + 1 + 1 + 1), 1, none⟩)), some (.int .i64 bb1), some (vI kk (Xd0 + bb0) (Yd0 + bb1) (Xd1 + bb0) (Yd1 + bb1) Ad n cd), some (vI k2 X0 Y0 X1 Y1 As n' cs), some (.pointer (some ⟨(w.heap.size + 1 + 1 + 1 + 1), 2, none⟩)), some (.int .i64 bb2), some (.pointer (some ⟨(w.heap.size + 1 + 1 + 1 + 1), 3, none⟩)), some (.int .i64 bb3), some (vI k2 (mv k2 X0 bb2) (mv k2 Y0 bb3) (mv k2 X1 bb2) (mv k2 Y1 bb3) As n' cs), some (vI k3 Xm0 Ym0 Xm1 Ym1 Am n'' cm), some (.pointer (some ⟨(w.heap.size + 1 + 1 + 1 + 1), 4, none⟩)), some (.int .i64 bb4), some (.pointer (some ⟨(w.heap.size + 1 + 1 + 1 + 1), 5, none⟩)), some (.int .i64 bb5), some (vI k3 (mv k3 Xm0 bb4) (mv k3 Ym0 bb5) (mv k3 Xm1 bb4) (mv k3 Ym1 bb5) Am n'' cm), none, none, none, none, none, none] [(18, 21, [.int .i64 kk, .int .i64 (Xd0 + bb0), .int .i64 (Yd0 + bb1), .int .i64 (Xd1 + bb0), .int .i64 (Yd1 + bb1), .slice Ad n cd]), (19, 22, [.int .i64 k2, .int .i64 (mv k2 X0 bb2), .int .i64 (mv k2 Y0 bb3), .int .i64 (mv k2 X1 bb2), .int .i64 (mv k2 Y1 bb3), .slice As n' cs]), (20, 23, [.int .i64 k3, .int .i64 (mv k3 Xm0 bb4), .int .i64 (mv k3 Ym0 bb5), .int .i64 (mv k3 Xm1 bb4), .int .i64 (mv k3 Ym1 bb5), .slice Am n'' cm])]) (fun _ => undef) (by kernel_rfl) (by kernel_rfl) [(0, 89), (1, 90), (2, 91), (3, 92), (4, 93), (5, 94), (6, 95), (7, 96), (8, 97), (9, 98), (10, 99), (11, 100), (12, 101), (13, 102), (14, 103), (15, 104), (16, 105), (17, 106), (18, 24), (19, 25), (20, 26)] (by kernel_rfl) (JV.start (by (repeat (first | exact gb_refl _ _ | assumption | refine gb_drew ?_ | refine gb_drewN ?_ _ | refine gb_alloc ?_ _ | refine gb_setCell ?_ (.inr (by simp <;> omega)) _)))) ?_ ?_
        · refine Steps'.cons [] (by kernel_rfl) ?_ (Steps'.cons [] (by kernel_rfl) ?_ (Steps'.cons [(1, 90)] (by kernel_rfl) ?_ (Steps'.cons [] (by kernel_rfl) ?_ (Steps'.cons [(3, 92)] (by kernel_rfl) ?_ (Steps'.cons [(0, 89), (2, 91), (4, 93)] (by kernel_rfl) ?_ (Steps'.cons [] (by kernel_rfl) ?_ (Steps'.cons [] (by kernel_rfl) ?_ (Steps'.cons [(7, 96)] (by kernel_rfl) ?_ (Steps'.cons [] (by kernel_rfl) ?_ (Steps'.cons [(9, 98)] (by kernel_rfl) ?_ (Steps'.cons [(6, 95), (8, 97), (10, 99)] (by kernel_rfl) ?_ (Steps'.cons [] (by kernel_rfl) ?_ (Steps'.cons [] (by kernel_rfl) ?_ (Steps'.cons [(13, 102)] (by kernel_rfl) ?_ (Steps'.cons [] (by kernel_rfl) ?_ (Steps'.cons [(15, 104)] (by kernel_rfl) ?_ (Steps'.cons [(12, 101), (14, 103), (16, 105)] (by kernel_rfl) ?_ (Steps'.cons [] (by kernel_rfl) ?_ (Steps'.cons [] (by kernel_rfl) ?_ (Steps'.cons [] (by kernel_rfl) ?_ (Steps'.cons [(5, 94), (18, 24)] (by kernel_rfl) ?_ (Steps'.cons [(11, 100), (19, 25)] (by kernel_rfl) ?_ (Steps'.cons [(17, 106), (20, 26)] (by kernel_rfl) ?_ (Steps'.nil))))))))))))))))))))))))
          · intro l t w7 hJ hl hd bb hbb K hK
            have f0 := (HA8.out.kept0 hJ.gb) 0 _ rfl
            have f1 := (HA8.out.kept0 hJ.gb) 1 _ rfl
            have f2 := (HA8.out.kept0 hJ.gb) 2 _ rfl
            have f3 := (HA8.out.kept0 hJ.gb) 3 _ rfl
            have f4 := (HA8.out.kept0 hJ.gb) 4 _ rfl
            have f5 := (HA8.out.kept0 hJ.gb) 5 _ rfl
            simp only [puts, Act.put, List.setIfInBounds_toArray, List.set_cons_zero, List.set_cons_succ] at hbb
            subst hbb
            go_simp
            exact hK.out _ _ (hJ.pure (gb_refl _ _) rfl rfl)
          · intro l t w7 hJ hl hd bb hbb K hK
            simp only [puts, Act.put, List.setIfInBounds_toArray, List.set_cons_zero, List.set_cons_succ] at hbb
            subst hbb
            go_simp
            exact hK.out _ _ (hJ.pure (gb_refl _ _) rfl rfl)
          · intro l t w7 hJ hl hd bb hbb K hK
            have f0 := (HB8.out.kept0 hJ.gb) 0 _ rfl
            have f1 := (HB8.out.kept0 hJ.gb) 1 _ rfl
            have f2 := (HB8.out.kept0 hJ.gb) 2 _ rfl
            have f3 := (HB8.out.kept0 hJ.gb) 3 _ rfl
            have f4 := (HB8.out.kept0 hJ.gb) 4 _ rfl
            have f5 := (HB8.out.kept0 hJ.gb) 5 _ rfl
            have e1 := hJ.val 1 _ rfl (hd 1 (by kernel_rfl))
            simp only [puts, Act.put, List.setIfInBounds_toArray, List.set_cons_zero, List.set_cons_succ] at hbb
            rw [e1] at hbb
            subst hbb
            go_simp
            exact hK.out _ _ (hJ.pure (gb_refl _ _) rfl rfl)
          · intro l t w7 hJ hl hd bb hbb K hK
            simp only [puts, Act.put, List.setIfInBounds_toArray, List.set_cons_zero, List.set_cons_succ] at hbb
            subst hbb
            go_simp
            exact hK.out _ _ (hJ.pure (gb_refl _ _) rfl rfl)
          · intro l t w7 hJ hl hd bb hbb K hK
            have f0 := (HB8.out.kept0 hJ.gb) 0 _ rfl
            have f1 := (HB8.out.kept0 hJ.gb) 1 _ rfl
            have f2 := (HB8.out.kept0 hJ.gb) 2 _ rfl
            have f3 := (HB8.out.kept0 hJ.gb) 3 _ rfl
            have f4 := (HB8.out.kept0 hJ.gb) 4 _ rfl
            have f5 := (HB8.out.kept0 hJ.gb) 5 _ rfl
            have e3 := hJ.val 3 _ rfl (hd 3 (by kernel_rfl))
            simp only [puts, Act.put, List.setIfInBounds_toArray, List.set_cons_zero, List.set_cons_succ] at hbb
            rw [e3] at hbb
            subst hbb
            go_simp
            exact hK.out _ _ (hJ.pure (gb_refl _ _) rfl rfl)
          · intro l t w7 hJ hl hd bb hbb K hK
            have e0 := hJ.val 0 _ rfl (hd 0 (by kernel_rfl))
            have e2 := hJ.val 2 _ rfl (hd 2 (by kernel_rfl))
            have e4 := hJ.val 4 _ rfl (hd 4 (by kernel_rfl))
            simp only [puts, Act.put, List.setIfInBounds_toArray, List.set_cons_zero, List.set_cons_succ] at hbb
            rw [e0] at hbb
            rw [e2] at hbb
            rw [e4] at hbb
            subst hbb
            go_simp
            refine (moved_c _ (vk_near HV.out).sm (by have := HBB.out.1; unfold nr at this; unfold sm; omega) (by have := HBB.out.2.1; unfold nr at this; unfold sm; omega)).mono ?_
            rintro e w8 ⟨rfl, hg⟩
            have hk6d : kk ≠ 6 := by have := HK.out; omega
            rw [mv_ne hk6d, mv_ne hk6d, mv_ne hk6d, mv_ne hk6d]
            exact hK.out _ _ (hJ.pure hg rfl rfl)
          · intro l t w7 hJ hl hd bb hbb K hK
            have f0 := (HS8.out.kept0 hJ.gb) 0 _ rfl
            have f1 := (HS8.out.kept0 hJ.gb) 1 _ rfl
            have f2 := (HS8.out.kept0 hJ.gb) 2 _ rfl
            have f3 := (HS8.out.kept0 hJ.gb) 3 _ rfl
            have f4 := (HS8.out.kept0 hJ.gb) 4 _ rfl
            have f5 := (HS8.out.kept0 hJ.gb) 5 _ rfl
            simp only [puts, Act.put, List.setIfInBounds_toArray, List.set_cons_zero, List.set_cons_succ] at hbb
            subst hbb
            go_simp
            exact hK.out _ _ (hJ.pure (gb_refl _ _) rfl rfl)
          · intro l t w7 hJ hl hd bb hbb K hK
            simp only [puts, Act.put, List.setIfInBounds_toArray, List.set_cons_zero, List.set_cons_succ] at hbb
            subst hbb
            go_simp
            exact hK.out _ _ (hJ.pure (gb_refl _ _) rfl rfl)
          · intro l t w7 hJ hl hd bb hbb K hK
            have f0 := (HB8.out.kept0 hJ.gb) 0 _ rfl
            have f1 := (HB8.out.kept0 hJ.gb) 1 _ rfl
            have f2 := (HB8.out.kept0 hJ.gb) 2 _ rfl
            have f3 := (HB8.out.kept0 hJ.gb) 3 _ rfl
            have f4 := (HB8.out.kept0 hJ.gb) 4 _ rfl
            have f5 := (HB8.out.kept0 hJ.gb) 5 _ rfl
            have e7 := hJ.val 7 _ rfl (hd 7 (by kernel_rfl))
            simp only [puts, Act.put, List.setIfInBounds_toArray, List.set_cons_zero, List.set_cons_succ] at hbb
            rw [e7] at hbb
            subst hbb
            go_simp
            exact hK.out _ _ (hJ.pure (gb_refl _ _) rfl rfl)
          · intro l t w7 hJ hl hd bb hbb K hK
            simp only [puts, Act.put, List.setIfInBounds_toArray, List.set_cons_zero, List.set_cons_succ] at hbb
            subst hbb
            go_simp
            exact hK.out _ _ (hJ.pure (gb_refl _ _) rfl rfl)
          · intro l t w7 hJ hl hd bb hbb K hK
            have f0 := (HB8.out.kept0 hJ.gb) 0 _ rfl
            have f1 := (HB8.out.kept0 hJ.gb) 1 _ rfl
            have f2 := (HB8.out.kept0 hJ.gb) 2 _ rfl
            have f3 := (HB8.out.kept0 hJ.gb) 3 _ rfl
            have f4 := (HB8.out.kept0 hJ.gb) 4 _ rfl
            have f5 := (HB8.out.kept0 hJ.gb) 5 _ rfl
            have e9 := hJ.val 9 _ rfl (hd 9 (by kernel_rfl))
            simp only [puts, Act.put, List.setIfInBounds_toArray, List.set_cons_zero, List.set_cons_succ] at hbb
            rw [e9] at hbb
            subst hbb
            go_simp
            exact hK.out _ _ (hJ.pure (gb_refl _ _) rfl rfl)
          · intro l t w7 hJ hl hd bb hbb K hK
            have e6 := hJ.val 6 _ rfl (hd 6 (by kernel_rfl))
            have e8 := hJ.val 8 _ rfl (hd 8 (by kernel_rfl))
            have e10 := hJ.val 10 _ rfl (hd 10 (by kernel_rfl))
            simp only [puts, Act.put, List.setIfInBounds_toArray, List.set_cons_zero, List.set_cons_succ] at hbb
            rw [e6] at hbb
            rw [e8] at hbb
            rw [e10] at hbb
            subst hbb
            go_simp
            refine (moved_c _ (vk_near HVS.out).sm (by have := HBB.out.2.2.1; unfold nr at this; unfold sm; omega) (by have := HBB.out.2.2.2.1; unfold nr at this; unfold sm; omega)).mono ?_
            rintro e w8 ⟨rfl, hg⟩
            exact hK.out _ _ (hJ.pure hg rfl rfl)
          · intro l t w7 hJ hl hd bb hbb K hK
            have f0 := (HM8.out.kept0 hJ.gb) 0 _ rfl
            have f1 := (HM8.out.kept0 hJ.gb) 1 _ rfl
            have f2 := (HM8.out.kept0 hJ.gb) 2 _ rfl
            have f3 := (HM8.out.kept0 hJ.gb) 3 _ rfl
            have f4 := (HM8.out.kept0 hJ.gb) 4 _ rfl
            have f5 := (HM8.out.kept0 hJ.gb) 5 _ rfl
            simp only [puts, Act.put, List.setIfInBounds_toArray, List.set_cons_zero, List.set_cons_succ] at hbb
            subst hbb
            go_simp
            exact hK.out _ _ (hJ.pure (gb_refl _ _) rfl rfl)
          · intro l t w7 hJ hl hd bb hbb K hK
            simp only [puts, Act.put, List.setIfInBounds_toArray, List.set_cons_zero, List.set_cons_succ] at hbb
            subst hbb
            go_simp
            exact hK.out _ _ (hJ.pure (gb_refl _ _) rfl rfl)
          · intro l t w7 hJ hl hd bb hbb K hK
            have f0 := (HB8.out.kept0 hJ.gb) 0 _ rfl
            have f1 := (HB8.out.kept0 hJ.gb) 1 _ rfl
            have f2 := (HB8.out.kept0 hJ.gb) 2 _ rfl
            have f3 := (HB8.out.kept0 hJ.gb) 3 _ rfl
            have f4 := (HB8.out.kept0 hJ.gb) 4 _ rfl
            have f5 := (HB8.out.kept0 hJ.gb) 5 _ rfl
            have e13 := hJ.val 13 _ rfl (hd 13 (by kernel_rfl))
            simp only [puts, Act.put, List.setIfInBounds_toArray, List.set_cons_zero, List.set_cons_succ] at hbb
            rw [e13] at hbb
            subst hbb
            go_simp
            exact hK.out _ _ (hJ.pure (gb_refl _ _) rfl rfl)
          · intro l t w7 hJ hl hd bb hbb K hK
            simp only [puts, Act.put, List.setIfInBounds_toArray, List.set_cons_zero, List.set_cons_succ] at hbb
            subst hbb
            go_simp
            exact hK.out _ _ (hJ.pure (gb_refl _ _) rfl rfl)
          · intro l t w7 hJ hl hd bb hbb K hK
            have f0 := (HB8.out.kept0 hJ.gb) 0 _ rfl
            have f1 := (HB8.out.kept0 hJ.gb) 1 _ rfl
            have f2 := (HB8.out.kept0 hJ.gb) 2 _ rfl
            have f3 := (HB8.out.kept0 hJ.gb) 3 _ rfl
            have f4 := (HB8.out.kept0 hJ.gb) 4 _ rfl
            have f5 := (HB8.out.kept0 hJ.gb) 5 _ rfl
            have e15 := hJ.val 15 _ rfl (hd 15 (by kernel_rfl))
            simp only [puts, Act.put, List.setIfInBounds_toArray, List.set_cons_zero, List.set_cons_succ] at hbb
            rw [e15] at hbb
            subst hbb
            go_simp
            exact hK.out _ _ (hJ.pure (gb_refl _ _) rfl rfl)
          · intro l t w7 hJ hl hd bb hbb K hK
            have e12 := hJ.val 12 _ rfl (hd 12 (by kernel_rfl))
            have e14 := hJ.val 14 _ rfl (hd 14 (by kernel_rfl))
            have e16 := hJ.val 16 _ rfl (hd 16 (by kernel_rfl))
            simp only [puts, Act.put, List.setIfInBounds_toArray, List.set_cons_zero, List.set_cons_succ] at hbb
            rw [e12] at hbb
            rw [e14] at hbb
            rw [e16] at hbb
            subst hbb
            go_simp
            refine (moved_c _ (vk_near HVM.out).sm (by have := HBB.out.2.2.2.2.1; unfold nr at this; unfold sm; omega) (by have := HBB.out.2.2.2.2.2; unfold nr at this; unfold sm; omega)).mono ?_
            rintro e w8 ⟨rfl, hg⟩
            exact hK.out _ _ (hJ.pure hg rfl rfl)
          · intro l t w7 hJ hl hd bb hbb K hK
            simp only [puts, Act.put, List.setIfInBounds_toArray, List.set_cons_zero, List.set_cons_succ] at hbb
            subst hbb
            go_simp
            exact hK.out _ _ (hJ.alloc (vsOK3 rfl) (C := #[.int .i64 0, .int .i64 0, .int .i64 0, .int .i64 0, .int .i64 0, .slice none 0 0]) (s := 21) (vals := [.int .i64 kk, .int .i64 (Xd0 + bb0), .int .i64 (Yd0 + bb1), .int .i64 (Xd1 + bb0), .int .i64 (Yd1 + bb1), .slice Ad n cd]) (by simp) rfl hl rfl rfl)
          · intro l t w7 hJ hl hd bb hbb K hK
            simp only [puts, Act.put, List.setIfInBounds_toArray, List.set_cons_zero, List.set_cons_succ] at hbb
            subst hbb
            go_simp
            exact hK.out _ _ (hJ.alloc (vsOK3 rfl) (C := #[.int .i64 0, .int .i64 0, .int .i64 0, .int .i64 0, .int .i64 0, .slice none 0 0]) (s := 22) (vals := [.int .i64 k2, .int .i64 (mv k2 X0 bb2), .int .i64 (mv k2 Y0 bb3), .int .i64 (mv k2 X1 bb2), .int .i64 (mv k2 Y1 bb3), .slice As n' cs]) (by simp) rfl hl rfl rfl)
          · intro l t w7 hJ hl hd bb hbb K hK
            simp only [puts, Act.put, List.setIfInBounds_toArray, List.set_cons_zero, List.set_cons_succ] at hbb
            subst hbb
            go_simp
            exact hK.out _ _ (hJ.alloc (vsOK3 rfl) (C := #[.int .i64 0, .int .i64 0, .int .i64 0, .int .i64 0, .int .i64 0, .slice none 0 0]) (s := 23) (vals := [.int .i64 k3, .int .i64 (mv k3 Xm0 bb4), .int .i64 (mv k3 Ym0 bb5), .int .i64 (mv k3 Xm1 bb4), .int .i64 (mv k3 Ym1 bb5), .slice Am n'' cm]) (by simp) rfl hl rfl rfl)
          · intro l t w7 hJ hl hd bb hbb K hK
            obtain ⟨g, eg, -, -, hc⟩ := hJ.open (a := 18) (s := 21) (vals := [.int .i64 kk, .int .i64 (Xd0 + bb0), .int .i64 (Yd0 + bb1), .int .i64 (Xd1 + bb0), .int .i64 (Yd1 + bb1), .slice Ad n cd]) (by simp) (hd 18 (by kernel_rfl))
            obtain ⟨⟨u0, c0⟩, z0⟩ := hc 0 (by simp)
            obtain ⟨⟨u1, c1⟩, z1⟩ := hc 1 (by simp)
            obtain ⟨⟨u2, c2⟩, z2⟩ := hc 2 (by simp)
            obtain ⟨⟨u3, c3⟩, z3⟩ := hc 3 (by simp)
            obtain ⟨⟨u4, c4⟩, z4⟩ := hc 4 (by simp)
            obtain ⟨⟨u5, c5⟩, z5⟩ := hc 5 (by simp)
            have e5 := hJ.val 5 _ rfl (hd 5 (by kernel_rfl))
            simp only [puts, Act.put, List.setIfInBounds_toArray, List.set_cons_zero, List.set_cons_succ] at hbb
            rw [e5] at hbb
            rw [eg] at hbb
            subst hbb
            go_simp
            obtain ⟨y1, y2, y3⟩ := st6 c0 c1 c2 c3 c4 c5
            exact hK.out undef _ (hJ.store (u := undef) (vsOK3 rfl) (a := 18) (vals := [.int .i64 kk, .int .i64 (Xd0 + bb0), .int .i64 (Yd0 + bb1), .int .i64 (Xd1 + bb0), .int .i64 (Yd1 + bb1), .slice Ad n cd]) (by simp) rfl (hd 18 (by kernel_rfl)) eg y1 y2 y3)
          · intro l t w7 hJ hl hd bb hbb K hK
            obtain ⟨g, eg, -, -, hc⟩ := hJ.open (a := 19) (s := 22) (vals := [.int .i64 k2, .int .i64 (mv k2 X0 bb2), .int .i64 (mv k2 Y0 bb3), .int .i64 (mv k2 X1 bb2), .int .i64 (mv k2 Y1 bb3), .slice As n' cs]) (by simp) (hd 19 (by kernel_rfl))
            obtain ⟨⟨u0, c0⟩, z0⟩ := hc 0 (by simp)
            obtain ⟨⟨u1, c1⟩, z1⟩ := hc 1 (by simp)
            obtain ⟨⟨u2, c2⟩, z2⟩ := hc 2 (by simp)
            obtain ⟨⟨u3, c3⟩, z3⟩ := hc 3 (by simp)
            obtain ⟨⟨u4, c4⟩, z4⟩ := hc 4 (by simp)
            obtain ⟨⟨u5, c5⟩, z5⟩ := hc 5 (by simp)
            have e11 := hJ.val 11 _ rfl (hd 11 (by kernel_rfl))
            simp only [puts, Act.put, List.setIfInBounds_toArray, List.set_cons_zero, List.set_cons_succ] at hbb
            rw [e11] at hbb
            rw [eg] at hbb
            subst hbb
            go_simp
            obtain ⟨y1, y2, y3⟩ := st6 c0 c1 c2 c3 c4 c5
            exact hK.out undef _ (hJ.store (u := undef) (vsOK3 rfl) (a := 19) (vals := [.int .i64 k2, .int .i64 (mv k2 X0 bb2), .int .i64 (mv k2 Y0 bb3), .int .i64 (mv k2 X1 bb2), .int .i64 (mv k2 Y1 bb3), .slice As n' cs]) (by simp) rfl (hd 19 (by kernel_rfl)) eg y1 y2 y3)
          · intro l t w7 hJ hl hd bb hbb K hK
            obtain ⟨g, eg, -, -, hc⟩ := hJ.open (a := 20) (s := 23) (vals := [.int .i64 k3, .int .i64 (mv k3 Xm0 bb4), .int .i64 (mv k3 Ym0 bb5), .int .i64 (mv k3 Xm1 bb4), .int .i64 (mv k3 Ym1 bb5), .slice Am n'' cm]) (by simp) (hd 20 (by kernel_rfl))
            obtain ⟨⟨u0, c0⟩, z0⟩ := hc 0 (by simp)
            obtain ⟨⟨u1, c1⟩, z1⟩ := hc 1 (by simp)
            obtain ⟨⟨u2, c2⟩, z2⟩ := hc 2 (by simp)
            obtain ⟨⟨u3, c3⟩, z3⟩ := hc 3 (by simp)
            obtain ⟨⟨u4, c4⟩, z4⟩ := hc 4 (by simp)
            obtain ⟨⟨u5, c5⟩, z5⟩ := hc 5 (by simp)
            have e17 := hJ.val 17 _ rfl (hd 17 (by kernel_rfl))
            simp only [puts, Act.put, List.setIfInBounds_toArray, List.set_cons_zero, List.set_cons_succ] at hbb
            rw [e17] at hbb
            rw [eg] at hbb
            subst hbb
            go_simp
            obtain ⟨y1, y2, y3⟩ := st6 c0 c1 c2 c3 c4 c5
            exact hK.out undef _ (hJ.store (u := undef) (vsOK3 rfl) (a := 20) (vals := [.int .i64 k3, .int .i64 (mv k3 Xm0 bb4), .int .i64 (mv k3 Ym0 bb5), .int .i64 (mv k3 Xm1 bb4), .int .i64 (mv k3 Ym1 bb5), .slice Am n'' cm]) (by simp) rfl (hd 20 (by kernel_rfl)) eg y1 y2 y3)
        intro l t wc hJ hl
        obtain ⟨gd, e18, -, -, hgd⟩ := hJ.var (a := 18) (s := 21) (vals := [.int .i64 kk, .int .i64 (Xd0 + bb0), .int .i64 (Yd0 + bb1), .int .i64 (Xd1 + bb0), .int .i64 (Yd1 + bb1), .slice Ad n cd]) (by simp) (hl 18 (by decide)) (hl 21 (by decide))
        obtain ⟨gs, e19, -, -, hgs⟩ := hJ.var (a := 19) (s := 22) (vals := [.int .i64 k2, .int .i64 (mv k2 X0 bb2), .int .i64 (mv k2 Y0 bb3), .int .i64 (mv k2 X1 bb2), .int .i64 (mv k2 Y1 bb3), .slice As n' cs]) (by simp) (hl 19 (by decide)) (hl 22 (by decide))
        obtain ⟨gm, e20, -, -, hgm⟩ := hJ.var (a := 20) (s := 23) (vals := [.int .i64 k3, .int .i64 (mv k3 Xm0 bb4), .int .i64 (mv k3 Ym0 bb5), .int .i64 (mv k3 Xm1 bb4), .int .i64 (mv k3 Ym1 bb5), .slice Am n'' cm]) (by simp) (hl 20 (by decide)) (hl 23 (by decide))
        have hgw := hJ.gb
        have HDc : Hid (CellsAt wc gd [.int .i64 kk, .int .i64 (Xd0 + bb0), .int .i64 (Yd0 + bb1), .int .i64 (Xd1 + bb0), .int .i64 (Yd1 + bb1), .slice Ad n cd]) := hid hgd
        have HSc : Hid (CellsAt wc gs [.int .i64 k2, .int .i64 (mv k2 X0 bb2), .int .i64 (mv k2 Y0 bb3), .int .i64 (mv k2 X1 bb2), .int .i64 (mv k2 Y1 bb3), .slice As n' cs]) := hid hgs
        have HMc : Hid (CellsAt wc gm [.int .i64 k3, .int .i64 (mv k3 Xm0 bb4), .int .i64 (mv k3 Ym0 bb5), .int .i64 (mv k3 Xm1 bb4), .int .i64 (mv k3 Ym1 bb5), .slice Am n'' cm]) := hid hgm
        have HAc := hid (HA8.out.kept0 hgw)
        have HRc := hid (HR8.out.kept0 hgw)
        have HBc := hid (HB8.out.kept0 hgw)
        have HGc := hid (gb_trans HG8.out hgw)
        have HOc := hid (HO9.out.kept0 hgw)
        clear hJ hl hgd hgs hgm hgw HO9
        simp only [puts, Act.put, List.setIfInBounds_toArray, List.set_cons_zero, List.set_cons_succ]
        rw [e18, e19, e20]
        clear e18 e19 e20
        have r0' := HRc.out 0 _ rfl
        have r1' := HRc.out 1 _ rfl
        have r2' := HRc.out 2 _ rfl
        have r3' := HRc.out 3 _ rfl
        have b0' := HBc.out 0 _ rfl
        have b1' := HBc.out 1 _ rfl
        have a5' := HAc.out 5 _ rfl
        have zAc := HAc.out.lt
        have zRc := HRc.out.lt
        have zBc := HBc.out.lt
        have wq0 : IntKind.i64.wrap (q0 + bb0) = q0 + bb0 := IntWalk.i64_in _ (by have h1 := HNR.out; have h2 := HBB.out; unfold nr at h1 h2; omega)
        have wq1 : IntKind.i64.wrap (q1 + bb1) = q1 + bb1 := IntWalk.i64_in _ (by have h1 := HNR.out; have h2 := HBB.out; unfold nr at h1 h2; omega)
        have wq2 : IntKind.i64.wrap (q2 + bb0) = q2 + bb0 := IntWalk.i64_in _ (by have h1 := HNR.out; have h2 := HBB.out; unfold nr at h1 h2; omega)
        have wq3 : IntKind.i64.wrap (q3 + bb1) = q3 + bb1 := IntWalk.i64_in _ (by have h1 := HNR.out; have h2 := HBB.out; unfold nr at h1 h2; omega)
        go_upto_region 12 with fail
        obtain ⟨wz, hwz⟩ : ∃ wz : World, wz = wc.alloc (.cells #[.int .i64 (q0 + bb0), .int .i64 (q1 + bb1), .int .i64 (q2 + bb0), .int .i64 (q3 + bb1)] 25) := ⟨_, rfl⟩
        rw [← hwz]
        have hgz : wc.grownBy wz none := by rw [hwz]; exact gb_alloc (gb_refl _ _) _
        have hqz : CellsAt wz wc.heap.size [.int .i64 (q0 + bb0), .int .i64 (q1 + bb1), .int .i64 (q2 + bb0), .int .i64 (q3 + bb1)] := fun i v hv => by
          rw [hwz]
          rcases i with _ | _ | _ | _ | i <;> (first | (cases hv; go_simp; done) | (simp at hv; done))
        have HQz := hid hqz
        have HDz := hid (HDc.out.kept0 hgz)
        have HSz := hid (HSc.out.kept0 hgz)
        have HMz := hid (HMc.out.kept0 hgz)
        have HBz := hid (HBc.out.kept0 hgz)
        have HGz := hid (gb_trans HGc.out hgz)
        have HOz := hid (HOc.out.kept0 hgz)
        obtain ⟨Z, hZ⟩ : ∃ Z, strOfNums (byL n q) = Z := ⟨_, rfl⟩
        have HZ := hid hZ
        clear r0' r1' r2' r3' b0' b1' a5' zAc zRc zBc wq0 wq1 wq2 wq3 hgz hqz hwz hZ
        refine wp_region_inv (JP wz [some (vI kk (Xd0 + bb0) (Yd0 + bb1) (Xd1 + bb0) (Yd1 + bb1) Ad n cd), some (vR (q0 + bb0) (q1 + bb1) (q2 + bb0) (q3 + bb1)), some (vI k2 (mv k2 X0 bb2) (mv k2 Y0 bb3) (mv k2 X1 bb2) (mv k2 Y1 bb3) As n' cs), some (.int .i64 px), some (.pointer (some ⟨(w.heap.size + 1 + 1 + 1 + 1), 2, none⟩)), some (.int .i64 bb2), some (.int .i64 (px + bb2)), some (.int .i64 py), some (.pointer (some ⟨(w.heap.size + 1 + 1 + 1 + 1), 3, none⟩)), some (.int .i64 bb3), some (.int .i64 (py + bb3)), some (vI k3 (mv k3 Xm0 bb4) (mv k3 Ym0 bb5) (mv k3 Xm1 bb4) (mv k3 Ym1 bb5) Am n'' cm), some (.int .i64 qx), some (.pointer (some ⟨(w.heap.size + 1 + 1 + 1 + 1), 4, none⟩)), some (.int .i64 bb4), some (.int .i64 (qx + bb4)), some (.int .i64 qy), some (.pointer (some ⟨(w.heap.size + 1 + 1 + 1 + 1), 5, none⟩)), some (.int .i64 bb5), some (.int .i64 (qy + bb5)), some (.int .i64 o), none, some (.string Z), some (.slice A9 n c9), some (.string Z), some (.bool true), some (.bool true)] [] [21] wz.heap.size n q) (fun _ => undef) (by kernel_rfl) (by kernel_rfl) [(0, 134), (1, 135), (2, 136), (3, 137), (4, 138), (5, 139), (6, 140), (7, 141), (8, 142), (9, 143), (10, 144), (11, 145), (12, 146), (13, 147), (14, 148), (15, 149), (16, 150), (17, 151), (18, 152), (19, 153), (20, 154), (21, 155), (22, 156), (23, 157), (24, 158), (25, 159), (26, 20)] (by kernel_rfl) (JP.start (by (repeat (first | exact gb_refl _ _ | assumption | refine gb_drew ?_ | refine gb_drewN ?_ _ | refine gb_alloc ?_ _ | refine gb_setCell ?_ (.inr (by simp <;> omega)) _)))) ?_ ?_
        · refine Steps'.cons [] (by kernel_rfl) ?_ (Steps'.cons [] (by kernel_rfl) ?_ (Steps'.cons [] (by kernel_rfl) ?_ (Steps'.cons [] (by kernel_rfl) ?_ (Steps'.cons [] (by kernel_rfl) ?_ (Steps'.cons [(4, 138)] (by kernel_rfl) ?_ (Steps'.cons [(3, 137), (5, 139)] (by kernel_rfl) ?_ (Steps'.cons [] (by kernel_rfl) ?_ (Steps'.cons [] (by kernel_rfl) ?_ (Steps'.cons [(8, 142)] (by kernel_rfl) ?_ (Steps'.cons [(7, 141), (9, 143)] (by kernel_rfl) ?_ (Steps'.cons [] (by kernel_rfl) ?_ (Steps'.cons [] (by kernel_rfl) ?_ (Steps'.cons [] (by kernel_rfl) ?_ (Steps'.cons [(13, 147)] (by kernel_rfl) ?_ (Steps'.cons [(12, 146), (14, 148)] (by kernel_rfl) ?_ (Steps'.cons [] (by kernel_rfl) ?_ (Steps'.cons [] (by kernel_rfl) ?_ (Steps'.cons [(17, 151)] (by kernel_rfl) ?_ (Steps'.cons [(16, 150), (18, 152)] (by kernel_rfl) ?_ (Steps'.cons [] (by kernel_rfl) ?_ (Steps'.cons [(0, 134), (1, 135), (2, 136), (6, 140), (10, 144), (11, 145), (15, 149), (19, 153), (20, 154)] (by kernel_rfl) ?_ (Steps'.cons [(21, 155)] (by kernel_rfl) ?_ (Steps'.cons [] (by kernel_rfl) ?_ (Steps'.cons [(23, 157)] (by kernel_rfl) ?_ (Steps'.cons [(22, 156), (24, 158)] (by kernel_rfl) ?_ (Steps'.cons [(25, 159)] (by kernel_rfl) ?_ (Steps'.nil)))))))))))))))))))))))))))
          · intro l t w7 hJ hl hd bb hbb K hK
            have f0 := (HDz.out.kept0 hJ.1.gb) 0 _ rfl
            have f1 := (HDz.out.kept0 hJ.1.gb) 1 _ rfl
            have f2 := (HDz.out.kept0 hJ.1.gb) 2 _ rfl
            have f3 := (HDz.out.kept0 hJ.1.gb) 3 _ rfl
            have f4 := (HDz.out.kept0 hJ.1.gb) 4 _ rfl
            have f5 := (HDz.out.kept0 hJ.1.gb) 5 _ rfl
            simp only [puts, Act.put, List.setIfInBounds_toArray, List.set_cons_zero, List.set_cons_succ] at hbb
            subst hbb
            go_simp
            exact hK.out _ _ (hJ.pure (gb_refl _ _) rfl rfl rfl)
          · intro l t w7 hJ hl hd bb hbb K hK
            have f0 := (HQz.out.kept0 hJ.1.gb) 0 _ rfl
            have f1 := (HQz.out.kept0 hJ.1.gb) 1 _ rfl
            have f2 := (HQz.out.kept0 hJ.1.gb) 2 _ rfl
            have f3 := (HQz.out.kept0 hJ.1.gb) 3 _ rfl
            simp only [puts, Act.put, List.setIfInBounds_toArray, List.set_cons_zero, List.set_cons_succ] at hbb
            subst hbb
            go_simp
            exact hK.out _ _ (hJ.pure (gb_refl _ _) rfl rfl rfl)
          · intro l t w7 hJ hl hd bb hbb K hK
            have f0 := (HSz.out.kept0 hJ.1.gb) 0 _ rfl
            have f1 := (HSz.out.kept0 hJ.1.gb) 1 _ rfl
            have f2 := (HSz.out.kept0 hJ.1.gb) 2 _ rfl
            have f3 := (HSz.out.kept0 hJ.1.gb) 3 _ rfl
            have f4 := (HSz.out.kept0 hJ.1.gb) 4 _ rfl
            have f5 := (HSz.out.kept0 hJ.1.gb) 5 _ rfl
            simp only [puts, Act.put, List.setIfInBounds_toArray, List.set_cons_zero, List.set_cons_succ] at hbb
            subst hbb
            go_simp
            exact hK.out _ _ (hJ.pure (gb_refl _ _) rfl rfl rfl)
          · intro l t w7 hJ hl hd bb hbb K hK
            simp only [puts, Act.put, List.setIfInBounds_toArray, List.set_cons_zero, List.set_cons_succ] at hbb
            subst hbb
            go_simp
            exact hK.out _ _ (hJ.pure (gb_refl _ _) rfl rfl rfl)
          · intro l t w7 hJ hl hd bb hbb K hK
            simp only [puts, Act.put, List.setIfInBounds_toArray, List.set_cons_zero, List.set_cons_succ] at hbb
            subst hbb
            go_simp
            exact hK.out _ _ (hJ.pure (gb_refl _ _) rfl rfl rfl)
          · intro l t w7 hJ hl hd bb hbb K hK
            have f0 := (HBz.out.kept0 hJ.1.gb) 0 _ rfl
            have f1 := (HBz.out.kept0 hJ.1.gb) 1 _ rfl
            have f2 := (HBz.out.kept0 hJ.1.gb) 2 _ rfl
            have f3 := (HBz.out.kept0 hJ.1.gb) 3 _ rfl
            have f4 := (HBz.out.kept0 hJ.1.gb) 4 _ rfl
            have f5 := (HBz.out.kept0 hJ.1.gb) 5 _ rfl
            have e4 := hJ.1.val 4 _ rfl (hd 4 (by kernel_rfl))
            simp only [puts, Act.put, List.setIfInBounds_toArray, List.set_cons_zero, List.set_cons_succ] at hbb
            rw [e4] at hbb
            subst hbb
            go_simp
            exact hK.out _ _ (hJ.pure (gb_refl _ _) rfl rfl rfl)
          · intro l t w7 hJ hl hd bb hbb K hK
            have h1 := HXY.out
            have h2 := HBB.out
            unfold nr at h1 h2
            have wq : IntKind.i64.wrap (px + bb2) = px + bb2 := IntWalk.i64_in _ (by omega)
            clear h1 h2
            have e3 := hJ.1.val 3 _ rfl (hd 3 (by kernel_rfl))
            have e5 := hJ.1.val 5 _ rfl (hd 5 (by kernel_rfl))
            simp only [puts, Act.put, List.setIfInBounds_toArray, List.set_cons_zero, List.set_cons_succ] at hbb
            rw [e3] at hbb
            rw [e5] at hbb
            subst hbb
            go_simp
            exact hK.out _ _ (hJ.pure (gb_refl _ _) rfl rfl rfl)
          · intro l t w7 hJ hl hd bb hbb K hK
            simp only [puts, Act.put, List.setIfInBounds_toArray, List.set_cons_zero, List.set_cons_succ] at hbb
            subst hbb
            go_simp
            exact hK.out _ _ (hJ.pure (gb_refl _ _) rfl rfl rfl)
          · intro l t w7 hJ hl hd bb hbb K hK
            simp only [puts, Act.put, List.setIfInBounds_toArray, List.set_cons_zero, List.set_cons_succ] at hbb
            subst hbb
            go_simp
            exact hK.out _ _ (hJ.pure (gb_refl _ _) rfl rfl rfl)
          · intro l t w7 hJ hl hd bb hbb K hK
            have f0 := (HBz.out.kept0 hJ.1.gb) 0 _ rfl
            have f1 := (HBz.out.kept0 hJ.1.gb) 1 _ rfl
            have f2 := (HBz.out.kept0 hJ.1.gb) 2 _ rfl
            have f3 := (HBz.out.kept0 hJ.1.gb) 3 _ rfl
            have f4 := (HBz.out.kept0 hJ.1.gb) 4 _ rfl
            have f5 := (HBz.out.kept0 hJ.1.gb) 5 _ rfl
            have e8 := hJ.1.val 8 _ rfl (hd 8 (by kernel_rfl))
            simp only [puts, Act.put, List.setIfInBounds_toArray, List.set_cons_zero, List.set_cons_succ] at hbb
            rw [e8] at hbb
            subst hbb
            go_simp
            exact hK.out _ _ (hJ.pure (gb_refl _ _) rfl rfl rfl)
          · intro l t w7 hJ hl hd bb hbb K hK
            have h1 := HXY.out
            have h2 := HBB.out
            unfold nr at h1 h2
            have wq : IntKind.i64.wrap (py + bb3) = py + bb3 := IntWalk.i64_in _ (by omega)
            clear h1 h2
            have e7 := hJ.1.val 7 _ rfl (hd 7 (by kernel_rfl))
            have e9 := hJ.1.val 9 _ rfl (hd 9 (by kernel_rfl))
            simp only [puts, Act.put, List.setIfInBounds_toArray, List.set_cons_zero, List.set_cons_succ] at hbb
            rw [e7] at hbb
            rw [e9] at hbb
            subst hbb
            go_simp
            exact hK.out _ _ (hJ.pure (gb_refl _ _) rfl rfl rfl)
          · intro l t w7 hJ hl hd bb hbb K hK
            have f0 := (HMz.out.kept0 hJ.1.gb) 0 _ rfl
            have f1 := (HMz.out.kept0 hJ.1.gb) 1 _ rfl
            have f2 := (HMz.out.kept0 hJ.1.gb) 2 _ rfl
            have f3 := (HMz.out.kept0 hJ.1.gb) 3 _ rfl
            have f4 := (HMz.out.kept0 hJ.1.gb) 4 _ rfl
            have f5 := (HMz.out.kept0 hJ.1.gb) 5 _ rfl
            simp only [puts, Act.put, List.setIfInBounds_toArray, List.set_cons_zero, List.set_cons_succ] at hbb
            subst hbb
            go_simp
            exact hK.out _ _ (hJ.pure (gb_refl _ _) rfl rfl rfl)
          · intro l t w7 hJ hl hd bb hbb K hK
            simp only [puts, Act.put, List.setIfInBounds_toArray, List.set_cons_zero, List.set_cons_succ] at hbb
            subst hbb
            go_simp
            exact hK.out _ _ (hJ.pure (gb_refl _ _) rfl rfl rfl)
          · intro l t w7 hJ hl hd bb hbb K hK
            simp only [puts, Act.put, List.setIfInBounds_toArray, List.set_cons_zero, List.set_cons_succ] at hbb
            subst hbb
            go_simp
            exact hK.out _ _ (hJ.pure (gb_refl _ _) rfl rfl rfl)
          · intro l t w7 hJ hl hd bb hbb K hK
            have f0 := (HBz.out.kept0 hJ.1.gb) 0 _ rfl
            have f1 := (HBz.out.kept0 hJ.1.gb) 1 _ rfl
            have f2 := (HBz.out.kept0 hJ.1.gb) 2 _ rfl
            have f3 := (HBz.out.kept0 hJ.1.gb) 3 _ rfl
            have f4 := (HBz.out.kept0 hJ.1.gb) 4 _ rfl
            have f5 := (HBz.out.kept0 hJ.1.gb) 5 _ rfl
            have e13 := hJ.1.val 13 _ rfl (hd 13 (by kernel_rfl))
            simp only [puts, Act.put, List.setIfInBounds_toArray, List.set_cons_zero, List.set_cons_succ] at hbb
            rw [e13] at hbb
            subst hbb
            go_simp
            exact hK.out _ _ (hJ.pure (gb_refl _ _) rfl rfl rfl)
          · intro l t w7 hJ hl hd bb hbb K hK
            have h1 := HXY.out
            have h2 := HBB.out
            unfold nr at h1 h2
            have wq : IntKind.i64.wrap (qx + bb4) = qx + bb4 := IntWalk.i64_in _ (by omega)
            clear h1 h2
            have e12 := hJ.1.val 12 _ rfl (hd 12 (by kernel_rfl))
            have e14 := hJ.1.val 14 _ rfl (hd 14 (by kernel_rfl))
            simp only [puts, Act.put, List.setIfInBounds_toArray, List.set_cons_zero, List.set_cons_succ] at hbb
            rw [e12] at hbb
            rw [e14] at hbb
            subst hbb
            go_simp
            exact hK.out _ _ (hJ.pure (gb_refl _ _) rfl rfl rfl)
          · intro l t w7 hJ hl hd bb hbb K hK
            simp only [puts, Act.put, List.setIfInBounds_toArray, List.set_cons_zero, List.set_cons_succ] at hbb
            subst hbb
            go_simp
            exact hK.out _ _ (hJ.pure (gb_refl _ _) rfl rfl rfl)
          · intro l t w7 hJ hl hd bb hbb K hK
            simp only [puts, Act.put, List.setIfInBounds_toArray, List.set_cons_zero, List.set_cons_succ] at hbb
            subst hbb
            go_simp
            exact hK.out _ _ (hJ.pure (gb_refl _ _) rfl rfl rfl)
          · intro l t w7 hJ hl hd bb hbb K hK
            have f0 := (HBz.out.kept0 hJ.1.gb) 0 _ rfl
            have f1 := (HBz.out.kept0 hJ.1.gb) 1 _ rfl
            have f2 := (HBz.out.kept0 hJ.1.gb) 2 _ rfl
            have f3 := (HBz.out.kept0 hJ.1.gb) 3 _ rfl
            have f4 := (HBz.out.kept0 hJ.1.gb) 4 _ rfl
            have f5 := (HBz.out.kept0 hJ.1.gb) 5 _ rfl
            have e17 := hJ.1.val 17 _ rfl (hd 17 (by kernel_rfl))
            simp only [puts, Act.put, List.setIfInBounds_toArray, List.set_cons_zero, List.set_cons_succ] at hbb
            rw [e17] at hbb
            subst hbb
            go_simp
            exact hK.out _ _ (hJ.pure (gb_refl _ _) rfl rfl rfl)
          · intro l t w7 hJ hl hd bb hbb K hK
            have h1 := HXY.out
            have h2 := HBB.out
            unfold nr at h1 h2
            have wq : IntKind.i64.wrap (qy + bb5) = qy + bb5 := IntWalk.i64_in _ (by omega)
            clear h1 h2
            have e16 := hJ.1.val 16 _ rfl (hd 16 (by kernel_rfl))
            have e18 := hJ.1.val 18 _ rfl (hd 18 (by kernel_rfl))
            simp only [puts, Act.put, List.setIfInBounds_toArray, List.set_cons_zero, List.set_cons_succ] at hbb
            rw [e16] at hbb
            rw [e18] at hbb
            subst hbb
            go_simp
            exact hK.out _ _ (hJ.pure (gb_refl _ _) rfl rfl rfl)
          · intro l t w7 hJ hl hd bb hbb K hK
            simp only [puts, Act.put, List.setIfInBounds_toArray, List.set_cons_zero, List.set_cons_succ] at hbb
            subst hbb
            go_simp
            exact hK.out _ _ (hJ.pure (gb_refl _ _) rfl rfl rfl)
          · intro l t w7 hJ hl hd bb hbb K hK
            have e0 := hJ.1.val 0 _ rfl (hd 0 (by kernel_rfl))
            have e1 := hJ.1.val 1 _ rfl (hd 1 (by kernel_rfl))
            have e2 := hJ.1.val 2 _ rfl (hd 2 (by kernel_rfl))
            have e6 := hJ.1.val 6 _ rfl (hd 6 (by kernel_rfl))
            have e10 := hJ.1.val 10 _ rfl (hd 10 (by kernel_rfl))
            have e11 := hJ.1.val 11 _ rfl (hd 11 (by kernel_rfl))
            have e15 := hJ.1.val 15 _ rfl (hd 15 (by kernel_rfl))
            have e19 := hJ.1.val 19 _ rfl (hd 19 (by kernel_rfl))
            have e20 := hJ.1.val 20 _ rfl (hd 20 (by kernel_rfl))
            simp only [puts, Act.put, List.setIfInBounds_toArray, List.set_cons_zero, List.set_cons_succ] at hbb
            rw [e0] at hbb
            rw [e1] at hbb
            rw [e2] at hbb
            rw [e6] at hbb
            rw [e10] at hbb
            rw [e11] at hbb
            rw [e15] at hbb
            rw [e19] at hbb
            rw [e20] at hbb
            subst hbb
            go_simp
            have hk6d : kk ≠ 6 := by have := HK.out; omega
            have DD := dat_mv (vk_dat (by have := HK.out; omega) HV.out HD.out.2.1 hn) (vk_near HV.out) HBB.out.1 HBB.out.2.1
            rw [mv_ne hk6d, mv_ne hk6d, mv_ne hk6d, mv_ne hk6d] at DD
            have GD2 := geo_mv HGD.out.1 (vk_near HV.out) (.inr ⟨rfl, rfl, rfl, rfl⟩) HBB.out.1 HBB.out.2.1
            rw [mv_ne hk6d, mv_ne hk6d, mv_ne hk6d, mv_ne hk6d] at GD2
            have DS2 := dat_mv HGS.out.2.1 (vk_near HVS.out) HBB.out.2.2.1 HBB.out.2.2.2.1
            have GS2 := geo_mv HGS.out.1 (vk_near HVS.out) HGS.out.2.2.2.2 HBB.out.2.2.1 HBB.out.2.2.2.1
            have DM2 := dat_mv HGM.out.2.1 (vk_near HVM.out) HBB.out.2.2.2.2.1 HBB.out.2.2.2.2.2
            have GM2 := geo_mv HGM.out.1 (vk_near HVM.out) HGM.out.2.2.2 HBB.out.2.2.2.2.1 HBB.out.2.2.2.2.2
            refine (idrawmask_of (q := resB kk dw (In1 (q0 + bb0) (q1 + bb1) (q2 + bb0) (q3 + bb1) (px + bb2) (py + bb3) (qx + bb4) (qy + bb5) (Xd0 + bb0) (Yd0 + bb1) (mv k2 sx0 bb2) (mv k2 sy0 bb3) (mv k3 mx0 bb4) (mv k3 my0 bb5) sh sw mh mw) (fun r c => pxM kk k2 k3 o (toP dw (sz kk) p r c) (srcAt k2 sw s (q0 + bb0) (q1 + bb1) (px + bb2) (py + bb3) (Xd0 + bb0) (Yd0 + bb1) (mv k2 sx0 bb2) (mv k2 sy0 bb3) r c) (srcAt k3 mw m (q0 + bb0) (q1 + bb1) (qx + bb4) (qy + bb5) (Xd0 + bb0) (Yd0 + bb1) (mv k3 mx0 bb4) (mv k3 my0 bb5) r c)) p) (by have := HK.out; omega) (HD.out.1.kept0 (gb_trans HGz.out hJ.1.gb)) (HS.out.1.kept0 (gb_trans HGz.out hJ.1.gb)) (HM.out.1.kept0 (gb_trans HGz.out hJ.1.gb)) DD DS2 DM2
              (fun w' B B' B'' c c' c'' b b' b'' A A' A'' td ts tm h1 h2 h3 h4 h5 => mdm1_all ho (by have := HK.out; omega) h1 h2 h3 GD2 GS2 GM2 HD.out.2.1 HS.out.2.1 HM.out.2.1 HGS.out.2.2.2.1 h4 h5 (by have h1 := HNR.out; have h2 := HBB.out; unfold nr at h1 h2; unfold sm; omega) (by have h1 := HNR.out; have h2 := HBB.out; unfold nr at h1 h2; unfold sm; omega) (by have h1 := HNR.out; have h2 := HXY.out; have h3 := HBB.out; unfold nr at h1 h2 h3; unfold sm; omega) (by have h1 := HNR.out; have h2 := HXY.out; have h3 := HBB.out; unfold nr at h1 h2 h3; unfold sm; omega) (by have h1 := HNR.out; have h2 := HXY.out; have h3 := HBB.out; unfold nr at h1 h2 h3; unfold sm; omega) (by have h1 := HNR.out; have h2 := HXY.out; have h3 := HBB.out; unfold nr at h1 h2 h3; unfold sm; omega) (by have h1 := HNR.out; have h2 := HXY.out; have h3 := HBB.out; unfold nr at h1 h2 h3; unfold sm; omega) (by have h1 := HNR.out; have h2 := HXY.out; have h3 := HBB.out; unfold nr at h1 h2 h3; unfold sm; omega) (by have h1 := HNR.out; have h2 := HXY.out; have h3 := HBB.out; unfold nr at h1 h2 h3; unfold sm; omega) (by have h1 := HNR.out; have h2 := HXY.out; have h3 := HBB.out; unfold nr at h1 h2 h3; unfold sm; omega) (by have h1 := HNR.out; have h2 := HBB.out; unfold nr at h1 h2; unfold sm; omega) (by have h1 := HNR.out; have h2 := HBB.out; unfold nr at h1 h2; unfold sm; omega))).mono ?_
            rintro e w8 ⟨A8, c8, rfl, ho8, hg⟩
            have hme : ∀ i, i < n → (resB kk dw (In1 (q0 + bb0) (q1 + bb1) (q2 + bb0) (q3 + bb1) (px + bb2) (py + bb3) (qx + bb4) (qy + bb5) (Xd0 + bb0) (Yd0 + bb1) (mv k2 sx0 bb2) (mv k2 sy0 bb3) (mv k3 mx0 bb4) (mv k3 my0 bb5) sh sw mh mw) (fun r c => pxM kk k2 k3 o (toP dw (sz kk) p r c) (srcAt k2 sw s (q0 + bb0) (q1 + bb1) (px + bb2) (py + bb3) (Xd0 + bb0) (Yd0 + bb1) (mv k2 sx0 bb2) (mv k2 sy0 bb3) r c) (srcAt k3 mw m (q0 + bb0) (q1 + bb1) (qx + bb4) (qy + bb5) (Xd0 + bb0) (Yd0 + bb1) (mv k3 mx0 bb4) (mv k3 my0 bb5) r c)) p) i = q i := fun i hi => by
              have h1 := HNR.out
              have h2 := HXY.out
              have h3 := HBB.out
              have h4 := HGD.out
              unfold nr at h1 h2 h3
              rw [← HQ.out]
              exact moved_eq (far_of HGS.out.1) (far_of HGM.out.1) h4.2.2.2.2.1 h4.2.2.2.2.2.1 (by omega) (by omega) (by omega) (by omega) (by omega) (by rw [← h4.2.2.2.1]; exact hi)
            exact hK.out _ _ (hJ.own hg rfl rfl ((ho8.low hJ.1.gb.size).congr hme))
          · intro l t w7 hJ hl hd bb hbb K hK
            obtain ⟨A8, c8, e21, ho8⟩ := hJ.2 21 (by simp) (hd 21 (by kernel_rfl))
            have z1 := convO ho8
            rw [HZ.out] at z1
            simp only [puts, Act.put, List.setIfInBounds_toArray, List.set_cons_zero, List.set_cons_succ] at hbb
            rw [e21] at hbb
            subst hbb
            go_simp
            exact hK.out _ _ (hJ.pure (gb_refl _ _) rfl rfl rfl)
          · intro l t w7 hJ hl hd bb hbb K hK
            simp only [puts, Act.put, List.setIfInBounds_toArray, List.set_cons_zero, List.set_cons_succ] at hbb
            subst hbb
            go_simp
            exact hK.out _ _ (hJ.pure (gb_refl _ _) rfl rfl rfl)
          · intro l t w7 hJ hl hd bb hbb K hK
            have z1 := convO (HOz.out.kept0 hJ.1.gb)
            rw [HZ.out] at z1
            have e23 := hJ.1.val 23 _ rfl (hd 23 (by kernel_rfl))
            simp only [puts, Act.put, List.setIfInBounds_toArray, List.set_cons_zero, List.set_cons_succ] at hbb
            rw [e23] at hbb
            subst hbb
            go_simp
            exact hK.out _ _ (hJ.pure (gb_refl _ _) rfl rfl rfl)
          · intro l t w7 hJ hl hd bb hbb K hK
            have e22 := hJ.1.val 22 _ rfl (hd 22 (by kernel_rfl))
            have e24 := hJ.1.val 24 _ rfl (hd 24 (by kernel_rfl))
            simp only [puts, Act.put, List.setIfInBounds_toArray, List.set_cons_zero, List.set_cons_succ] at hbb
            rw [e22] at hbb
            rw [e24] at hbb
            subst hbb
            go_simp
            exact hK.out _ _ (hJ.pure (gb_refl _ _) rfl rfl rfl)
          · intro l t w7 hJ hl hd bb hbb K hK
            have e25 := hJ.1.val 25 _ rfl (hd 25 (by kernel_rfl))
            simp only [puts, Act.put, List.setIfInBounds_toArray, List.set_cons_zero, List.set_cons_succ] at hbb
            rw [e25] at hbb
            subst hbb
            go_simp
            exact hK.out _ _ (hJ.pure (gb_refl _ _) rfl rfl rfl)
        intro l t w9 hJ hl
        have e26 := hJ.1.val 26 _ rfl (hl 26 (by decide))
        have HG9 := hid (gb_trans HGz.out hJ.1.gb)
        clear hJ hl
        simp only [puts, Act.put, List.setIfInBounds_toArray, List.set_cons_zero, List.set_cons_succ]
        rw [e26]
        clear e26
        go_wp2_with fail
        go_ret
        exact ⟨rfl, HG9.out⟩
      · go_enter Tryz.func5, Tryz.ntmps5
        go_wp2_with fail
        refine (fits_y _ hn).mono ?_
        rintro e w1 ⟨rfl, hg⟩
        have hh1 := gb_trans (a := w) (by (repeat (first | exact gb_refl _ _ | assumption | refine gb_drew ?_ | refine gb_drewN ?_ _ | refine gb_alloc ?_ _ | refine gb_setCell ?_ (.inr (by simp <;> omega)) _))) hg
        have HG1 := hid hh1
        have hS : CellsAt w1 (w.heap.size + 1 + 1) [.int .i64 ks, .int .i64 X0, .int .i64 Y0, .int .i64 X1, .int .i64 Y1, .slice As n' cs] := CellsAt.kept0 (fun i v hv => by (rcases i with _ | _ | _ | _ | _ | _ | i <;> (first | (cases hv; go_simp; done) | (simp at hv; done)))) hg
        have HS1 := hid hS
        clear hS
        have zS := HS1.out.lt
        have hM : CellsAt w1 (w.heap.size + 1 + 1 + 1) [.int .i64 km, .int .i64 Xm0, .int .i64 Ym0, .int .i64 Xm1, .int .i64 Ym1, .slice Am n'' cm] := CellsAt.kept0 (fun i v hv => by (rcases i with _ | _ | _ | _ | _ | _ | i <;> (first | (cases hv; go_simp; done) | (simp at hv; done)))) hg
        have HM1 := hid hM
        clear hM
        have zM := HM1.out.lt
        clear hg hh1
        have s0' := HS1.out 0 _ rfl
        have s1' := HS1.out 1 _ rfl
        have s2' := HS1.out 2 _ rfl
        have s3' := HS1.out 3 _ rfl
        have s4' := HS1.out 4 _ rfl
        have s5' := HS1.out 5 _ rfl
        go_wp2_with fail
        refine (fits_y _ hn').mono ?_
        rintro e w2 ⟨rfl, hg⟩
        have hh2 := gb_trans (a := w1) (by (repeat (first | exact gb_refl _ _ | assumption | refine gb_drew ?_ | refine gb_drewN ?_ _ | refine gb_alloc ?_ _ | refine gb_setCell ?_ (.inr (by simp <;> omega)) _))) hg
        have HG2 := hid (gb_trans HG1.out hh2)
        clear zS zM
        have HS2 := hid (HS1.out.kept0 hh2)
        have zS := HS2.out.lt
        have HM2 := hid (HM1.out.kept0 hh2)
        have zM := HM2.out.lt
        clear s0' s1' s2' s3' s4' s5'
        clear hg hh2
        have m0' := HM2.out 0 _ rfl
        have m1' := HM2.out 1 _ rfl
        have m2' := HM2.out 2 _ rfl
        have m3' := HM2.out 3 _ rfl
        have m4' := HM2.out 4 _ rfl
        have m5' := HM2.out 5 _ rfl
        go_wp2_with fail
        refine (fits_n _ hn'').mono ?_
        rintro e w3 ⟨rfl, hg⟩
        have hh3 := gb_trans (a := w2) (by (repeat (first | exact gb_refl _ _ | assumption | refine gb_drew ?_ | refine gb_drewN ?_ _ | refine gb_alloc ?_ _ | refine gb_setCell ?_ (.inr (by simp <;> omega)) _))) hg
        have HG3 := hid (gb_trans HG2.out hh3)
        clear zS zM
        have HS3 := hid (HS2.out.kept0 hh3)
        have zS := HS3.out.lt
        have HM3 := hid (HM2.out.kept0 hh3)
        have zM := HM3.out.lt
        clear m0' m1' m2' m3' m4' m5'
        clear hg hh3
        go_wp2_with fail
        go_ret
        exact ⟨rfl, HG3.out⟩
    · go_enter Tryz.func5, Tryz.ntmps5
      go_wp2_with fail
      refine (fits_y _ hn).mono ?_
      rintro e w1 ⟨rfl, hg⟩
      have hh1 := gb_trans (a := w) (by (repeat (first | exact gb_refl _ _ | assumption | refine gb_drew ?_ | refine gb_drewN ?_ _ | refine gb_alloc ?_ _ | refine gb_setCell ?_ (.inr (by simp <;> omega)) _))) hg
      have HG1 := hid hh1
      have hS : CellsAt w1 (w.heap.size + 1 + 1) [.int .i64 ks, .int .i64 X0, .int .i64 Y0, .int .i64 X1, .int .i64 Y1, .slice As n' cs] := CellsAt.kept0 (fun i v hv => by (rcases i with _ | _ | _ | _ | _ | _ | i <;> (first | (cases hv; go_simp; done) | (simp at hv; done)))) hg
      have HS1 := hid hS
      clear hS
      have zS := HS1.out.lt
      clear hg hh1
      have s0' := HS1.out 0 _ rfl
      have s1' := HS1.out 1 _ rfl
      have s2' := HS1.out 2 _ rfl
      have s3' := HS1.out 3 _ rfl
      have s4' := HS1.out 4 _ rfl
      have s5' := HS1.out 5 _ rfl
      go_wp2_with fail
      refine (fits_n _ hn').mono ?_
      rintro e w2 ⟨rfl, hg⟩
      have hh2 := gb_trans (a := w1) (by (repeat (first | exact gb_refl _ _ | assumption | refine gb_drew ?_ | refine gb_drewN ?_ _ | refine gb_alloc ?_ _ | refine gb_setCell ?_ (.inr (by simp <;> omega)) _))) hg
      have HG2 := hid (gb_trans HG1.out hh2)
      clear zS
      have HS2 := hid (HS1.out.kept0 hh2)
      have zS := HS2.out.lt
      clear s0' s1' s2' s3' s4' s5'
      clear hg hh2
      go_wp2_with fail
      go_ret
      exact ⟨rfl, HG2.out⟩
  · go_enter Tryz.func5, Tryz.ntmps5
    go_wp2_with fail
    refine (fits_n _ hn).mono ?_
    rintro e w1 ⟨rfl, hg⟩
    have hh1 := gb_trans (a := w) (by (repeat (first | exact gb_refl _ _ | assumption | refine gb_drew ?_ | refine gb_drewN ?_ _ | refine gb_alloc ?_ _ | refine gb_setCell ?_ (.inr (by simp <;> omega)) _))) hg
    have HG1 := hid hh1
    clear hg hh1
    go_wp2_with fail
    go_ret
    exact ⟨rfl, HG1.out⟩
end Go.Proofs.YtgjpohmjkhgpfaaGreat
