/- The law FnHalves: its walk. No condition. -/
import Derived.Test.YtgjpohmjkhgpfaaGreatHLMW
import Derived.Test.YtgjpohmjkhgpfaaGreatD04
set_option linter.unusedSimpArgs false
set_option linter.unusedVariables false
namespace Go.Proofs.YtgjpohmjkhgpfaaGreat
open Go.RowKit

set_option maxRecDepth 100000 in
set_option maxHeartbeats 8000000 in
theorem halves_walk {kd ks km Xd0 Yd0 Xd1 Yd1 X0 Y0 X1 Y1 Xm0 Ym0 Xm1 Ym1 r0 r1 r2 r3 px py qx qy op at_ : Int} {Ad As Am : Option Addr} {n n' n'' cd cs cm : Nat} {p s m : Nat → Int} {down : Bool} (w : World) (hd : InI w Ad n cd p) (hs : InI w As n' cs s) (hm : InI w Am n'' cm m) :
    Calls Tryz.prog 4 #[vI kd Xd0 Yd0 Xd1 Yd1 Ad n cd, vR r0 r1 r2 r3, vI ks X0 Y0 X1 Y1 As n' cs, .int .i64 px, .int .i64 py, vI km Xm0 Ym0 Xm1 Ym1 Am n'' cm, .int .i64 qx, .int .i64 qy, .int .i64 op, .int .i64 at_, .bool down] w fun e w' => e = .returned (.bool true) ∧ w.grownBy w' none := by
  have HD := hid hd
  have HS := hid hs
  have HM := hid hm
  clear hd hs hm
  by_cases hn : n ≤ 2147483647
  · by_cases hn' : n' ≤ 2147483647
    · by_cases hn'' : n'' ≤ 2147483647
      · go_enter Tryz.func4, Tryz.ntmps4
        go_wp2_with fail
        refine (fits_y _ hn).mono ?_
        rintro e w1 ⟨rfl, hg⟩
        have hh1 := gb_trans (a := w) (by (repeat (first | exact gb_refl _ _ | assumption | refine gb_drew ?_ | refine gb_drewN ?_ _ | refine gb_alloc ?_ _ | refine gb_setCell ?_ (.inr (by simp <;> omega)) _))) hg
        have HG1 := hid hh1
        have hA : CellsAt w1 w.heap.size [.int .i64 kd, .int .i64 Xd0, .int .i64 Yd0, .int .i64 Xd1, .int .i64 Yd1, .slice Ad n cd] := CellsAt.kept0 (fun i v hv => by (rcases i with _ | _ | _ | _ | _ | _ | i <;> (first | (cases hv; go_simp; done) | (simp at hv; done)))) hg
        have HA1 := hid hA
        clear hA
        have zA := HA1.out.lt
        have hR : CellsAt w1 (w.heap.size + 1) [.int .i64 r0, .int .i64 r1, .int .i64 r2, .int .i64 r3] := CellsAt.kept0 (fun i v hv => by (rcases i with _ | _ | _ | _ | i <;> (first | (cases hv; go_simp; done) | (simp at hv; done)))) hg
        have HR1 := hid hR
        clear hR
        have zR := HR1.out.lt
        have hS : CellsAt w1 (w.heap.size + 1 + 1) [.int .i64 ks, .int .i64 X0, .int .i64 Y0, .int .i64 X1, .int .i64 Y1, .slice As n' cs] := CellsAt.kept0 (fun i v hv => by (rcases i with _ | _ | _ | _ | _ | _ | i <;> (first | (cases hv; go_simp; done) | (simp at hv; done)))) hg
        have HS1 := hid hS
        clear hS
        have zS := HS1.out.lt
        have hM : CellsAt w1 (w.heap.size + 1 + 1 + 1) [.int .i64 km, .int .i64 Xm0, .int .i64 Ym0, .int .i64 Xm1, .int .i64 Ym1, .slice Am n'' cm] := CellsAt.kept0 (fun i v hv => by (rcases i with _ | _ | _ | _ | _ | _ | i <;> (first | (cases hv; go_simp; done) | (simp at hv; done)))) hg
        have HM1 := hid hM
        clear hM
        have zM := HM1.out.lt
        clear hg hh1
        have s0' := HS1.out 0 _ rfl
        have s1' := HS1.out 1 _ rfl
        have s2' := HS1.out 2 _ rfl
        have s3' := HS1.out 3 _ rfl
        have s4' := HS1.out 4 _ rfl
        have s5' := HS1.out 5 _ rfl
        go_wp2_with fail
        refine (fits_y _ hn').mono ?_
        rintro e w2 ⟨rfl, hg⟩
        have hh2 := gb_trans (a := w1) (by (repeat (first | exact gb_refl _ _ | assumption | refine gb_drew ?_ | refine gb_drewN ?_ _ | refine gb_alloc ?_ _ | refine gb_setCell ?_ (.inr (by simp <;> omega)) _))) hg
        have HG2 := hid (gb_trans HG1.out hh2)
        clear zA zR zS zM
        have HA2 := hid (HA1.out.kept0 hh2)
        have zA := HA2.out.lt
        have HR2 := hid (HR1.out.kept0 hh2)
        have zR := HR2.out.lt
        have HS2 := hid (HS1.out.kept0 hh2)
        have zS := HS2.out.lt
        have HM2 := hid (HM1.out.kept0 hh2)
        have zM := HM2.out.lt
        clear s0' s1' s2' s3' s4' s5'
        clear hg hh2
        have m0' := HM2.out 0 _ rfl
        have m1' := HM2.out 1 _ rfl
        have m2' := HM2.out 2 _ rfl
        have m3' := HM2.out 3 _ rfl
        have m4' := HM2.out 4 _ rfl
        have m5' := HM2.out 5 _ rfl
        go_wp2_with fail
        refine (fits_y _ hn'').mono ?_
        rintro e w3 ⟨rfl, hg⟩
        have hh3 := gb_trans (a := w2) (by (repeat (first | exact gb_refl _ _ | assumption | refine gb_drew ?_ | refine gb_drewN ?_ _ | refine gb_alloc ?_ _ | refine gb_setCell ?_ (.inr (by simp <;> omega)) _))) hg
        have HG3 := hid (gb_trans HG2.out hh3)
        clear zA zR zS zM
        have HA3 := hid (HA2.out.kept0 hh3)
        have zA := HA3.out.lt
        have HR3 := hid (HR2.out.kept0 hh3)
        have zR := HR3.out.lt
        have HS3 := hid (HS2.out.kept0 hh3)
        have zS := HS3.out.lt
        have HM3 := hid (HM2.out.kept0 hh3)
        have zM := HM3.out.lt
        clear m0' m1' m2' m3' m4' m5'
        clear hg hh3
        have r0' := HR3.out 0 _ rfl
        have r1' := HR3.out 1 _ rfl
        have r2' := HR3.out 2 _ rfl
        have r3' := HR3.out 3 _ rfl
        go_wp2_with fail
        refine (lrect_c r0 r1 r2 r3 _).mono ?_
        rintro e w4 ⟨b, q0, q1, q2, q3, rfl, hb, hg⟩
        have hh4 := gb_trans (a := w3) (by (repeat (first | exact gb_refl _ _ | assumption | refine gb_drew ?_ | refine gb_drewN ?_ _ | refine gb_alloc ?_ _ | refine gb_setCell ?_ (.inr (by simp <;> omega)) _))) hg
        have HG4 := hid (gb_trans HG3.out hh4)
        clear zA zR zS zM
        have HA4 := hid (HA3.out.kept0 hh4)
        have zA := HA4.out.lt
        have HR4 := hid (HR3.out.kept0 hh4)
        have zR := HR4.out.lt
        have HS4 := hid (HS3.out.kept0 hh4)
        have zS := HS4.out.lt
        have HM4 := hid (HM3.out.kept0 hh4)
        have zM := HM4.out.lt
        clear r0' r1' r2' r3'
        clear hg hh4
        cases b
        · go_wp2_with fail
          go_ret
          exact ⟨rfl, gb_trans HG4.out (by (repeat (first | exact gb_refl _ _ | assumption | refine gb_drew ?_ | refine gb_drewN ?_ _ | refine gb_alloc ?_ _ | refine gb_setCell ?_ (.inr (by simp <;> omega)) _)))⟩
        obtain ⟨hr, rfl, rfl, rfl, rfl⟩ := hb rfl
        have HNR := hid hr
        clear hr hb
        have a0' := HA4.out 0 _ rfl
        have a1' := HA4.out 1 _ rfl
        have a2' := HA4.out 2 _ rfl
        have a3' := HA4.out 3 _ rfl
        have a4' := HA4.out 4 _ rfl
        have a5' := HA4.out 5 _ rfl
        go_wp2_with fail
        refine (target_c _ (HD.out.1.kept0 (gb_trans HG4.out (by (repeat (first | exact gb_refl _ _ | assumption | refine gb_drew ?_ | refine gb_drewN ?_ _ | refine gb_alloc ?_ _ | refine gb_setCell ?_ (.inr (by simp <;> omega)) _))))) HD.out.2.1 hn HD.out.2.2.2.1 HD.out.2.2.2.2).mono ?_
        rintro e w5 ⟨b, rfl, hb, hg⟩
        have hh5 := gb_trans (a := w4) (by (repeat (first | exact gb_refl _ _ | assumption | refine gb_drew ?_ | refine gb_drewN ?_ _ | refine gb_alloc ?_ _ | refine gb_setCell ?_ (.inr (by simp <;> omega)) _))) hg
        have HG5 := hid (gb_trans HG4.out hh5)
        clear zA zR zS zM
        have HA5 := hid (HA4.out.kept0 hh5)
        have zA := HA5.out.lt
        have HR5 := hid (HR4.out.kept0 hh5)
        have zR := HR5.out.lt
        have HS5 := hid (HS4.out.kept0 hh5)
        have zS := HS5.out.lt
        have HM5 := hid (HM4.out.kept0 hh5)
        have zM := HM5.out.lt
        clear a0' a1' a2' a3' a4' a5'
        have hT : CellsAt w5 w4.heap.size [.int .i64 q0, .int .i64 q1, .int .i64 q2, .int .i64 q3] := CellsAt.kept0 (fun i v hv => by (rcases i with _ | _ | _ | _ | i <;> (first | (cases hv; go_simp; done) | (simp at hv; done)))) hg
        have HT5 := hid hT
        clear hT
        have zT := HT5.out.lt
        clear hg hh5
        cases b
        · go_wp2_with fail
          go_ret
          exact ⟨rfl, gb_trans HG5.out (by (repeat (first | exact gb_refl _ _ | assumption | refine gb_drew ?_ | refine gb_drewN ?_ _ | refine gb_alloc ?_ _ | refine gb_setCell ?_ (.inr (by simp <;> omega)) _)))⟩
        obtain ⟨kk, rfl, hkk, hv⟩ := hb rfl
        have HV := hid hv
        have HK := hid hkk
        clear hb hv hkk
        have s0' := HS5.out 0 _ rfl
        have s1' := HS5.out 1 _ rfl
        have s2' := HS5.out 2 _ rfl
        have s3' := HS5.out 3 _ rfl
        have s4' := HS5.out 4 _ rfl
        have s5' := HS5.out 5 _ rfl
        go_wp2_with fail
        refine (valid_c _ (HS.out.1.kept0 (gb_trans HG5.out (by (repeat (first | exact gb_refl _ _ | assumption | refine gb_drew ?_ | refine gb_drewN ?_ _ | refine gb_alloc ?_ _ | refine gb_setCell ?_ (.inr (by simp <;> omega)) _))))) HS.out.2.1 hn' HS.out.2.2.2.1 HS.out.2.2.2.2).mono ?_
        rintro e w6 ⟨b, rfl, hb, hg⟩
        have hh6 := gb_trans (a := w5) (by (repeat (first | exact gb_refl _ _ | assumption | refine gb_drew ?_ | refine gb_drewN ?_ _ | refine gb_alloc ?_ _ | refine gb_setCell ?_ (.inr (by simp <;> omega)) _))) hg
        have HG6 := hid (gb_trans HG5.out hh6)
        clear zA zR zS zM zT
        have HA6 := hid (HA5.out.kept0 hh6)
        have zA := HA6.out.lt
        have HR6 := hid (HR5.out.kept0 hh6)
        have zR := HR6.out.lt
        have HS6 := hid (HS5.out.kept0 hh6)
        have zS := HS6.out.lt
        have HM6 := hid (HM5.out.kept0 hh6)
        have zM := HM6.out.lt
        have HT6 := hid (HT5.out.kept0 hh6)
        have zT := HT6.out.lt
        clear s0' s1' s2' s3' s4' s5'
        clear hg hh6
        cases b
        · go_wp2_with fail
          go_ret
          exact ⟨rfl, gb_trans HG6.out (by (repeat (first | exact gb_refl _ _ | assumption | refine gb_drew ?_ | refine gb_drewN ?_ _ | refine gb_alloc ?_ _ | refine gb_setCell ?_ (.inr (by simp <;> omega)) _)))⟩
        obtain ⟨k2, rfl, hv⟩ := hb rfl
        have HVS := hid hv
        clear hb hv
        have m0' := HM6.out 0 _ rfl
        have m1' := HM6.out 1 _ rfl
        have m2' := HM6.out 2 _ rfl
        have m3' := HM6.out 3 _ rfl
        have m4' := HM6.out 4 _ rfl
        have m5' := HM6.out 5 _ rfl
        go_wp2_with fail
        refine (valid_c _ (HM.out.1.kept0 (gb_trans HG6.out (by (repeat (first | exact gb_refl _ _ | assumption | refine gb_drew ?_ | refine gb_drewN ?_ _ | refine gb_alloc ?_ _ | refine gb_setCell ?_ (.inr (by simp <;> omega)) _))))) HM.out.2.1 hn'' HM.out.2.2.2.1 HM.out.2.2.2.2).mono ?_
        rintro e w7 ⟨b, rfl, hb, hg⟩
        have hh7 := gb_trans (a := w6) (by (repeat (first | exact gb_refl _ _ | assumption | refine gb_drew ?_ | refine gb_drewN ?_ _ | refine gb_alloc ?_ _ | refine gb_setCell ?_ (.inr (by simp <;> omega)) _))) hg
        have HG7 := hid (gb_trans HG6.out hh7)
        clear zA zR zS zM zT
        have HA7 := hid (HA6.out.kept0 hh7)
        have zA := HA7.out.lt
        have HR7 := hid (HR6.out.kept0 hh7)
        have zR := HR7.out.lt
        have HS7 := hid (HS6.out.kept0 hh7)
        have zS := HS7.out.lt
        have HM7 := hid (HM6.out.kept0 hh7)
        have zM := HM7.out.lt
        have HT7 := hid (HT6.out.kept0 hh7)
        have zT := HT7.out.lt
        clear m0' m1' m2' m3' m4' m5'
        clear hg hh7
        cases b
        · go_wp2_with fail
          go_ret
          exact ⟨rfl, gb_trans HG7.out (by (repeat (first | exact gb_refl _ _ | assumption | refine gb_drew ?_ | refine gb_drewN ?_ _ | refine gb_alloc ?_ _ | refine gb_setCell ?_ (.inr (by simp <;> omega)) _)))⟩
        obtain ⟨k3, rfl, hv⟩ := hb rfl
        have HVM := hid hv
        clear hb hv
        go_wp2_with fail
        refine (fine_c (n := 5) (l := fun i => if i = 0 then px else if i = 1 then py else if i = 2 then qx else if i = 3 then qy else at_) _ (fun i hi => ?_) (by omega)).mono ?_
        · have hi' : i = 0 ∨ i = 1 ∨ i = 2 ∨ i = 3 ∨ i = 4 := by omega
          rcases hi' with rfl | rfl | rfl | rfl | rfl <;> go_simp
        rintro e w8 ⟨⟨b, rfl, hb⟩, rfl⟩
        cases b
        · go_wp2_with fail
          go_ret
          exact ⟨rfl, gb_trans HG7.out (by (repeat (first | exact gb_refl _ _ | assumption | refine gb_drew ?_ | refine gb_drewN ?_ _ | refine gb_alloc ?_ _ | refine gb_setCell ?_ (.inr (by simp <;> omega)) _)))⟩
        have hpx : nr px := hb rfl 0 (by omega)
        have hpy : nr py := hb rfl 1 (by omega)
        have hqx : nr qx := hb rfl 2 (by omega)
        have hqy : nr qy := hb rfl 3 (by omega)
        have hat_ : nr at_ := hb rfl 4 (by omega)
        have HXY := hid (And.intro hpx (And.intro hpy (And.intro hqx hqy)))
        have HF5 := hid hat_
        clear hb hpx hpy hqx hqy hat_
        have t0' := HT7.out 0 _ rfl
        have t1' := HT7.out 1 _ rfl
        have t2' := HT7.out 2 _ rfl
        have t3' := HT7.out 3 _ rfl
        obtain ⟨be, hbe⟩ : ∃ be, emp q0 q1 q2 q3 = be := ⟨_, rfl⟩
        go_wp2_with fail
        refine (sempty_c q0 q1 q2 q3 _).mono ?_
        rintro e w9 ⟨rfl, rfl⟩
        rw [hbe]
        cases be
        rotate_left
        · go_wp2_with fail
          go_ret
          exact ⟨rfl, gb_trans HG7.out (by (repeat (first | exact gb_refl _ _ | assumption | refine gb_drew ?_ | refine gb_drewN ?_ _ | refine gb_alloc ?_ _ | refine gb_setCell ?_ (.inr (by simp <;> omega)) _)))⟩
        have HE : Hid (q0 < q2 ∧ q1 < q3) := hid (by
          have h := emp_f.1 hbe
          omega)
        clear hbe t0' t1' t2' t3'
        obtain ⟨o, ho, hand⟩ := and1 op
        obtain ⟨dh, dw, GD, gx, gy, gm, gw, gh, v1, v2, v3, v4⟩ := vk_geo (by have := HK.out; omega) HV.out
        have HGD := hid (And.intro GD (And.intro gx (And.intro gy (And.intro gm (And.intro gw (And.intro gh (And.intro v1 (And.intro v2 (And.intro v3 v4)))))))))
        obtain ⟨hk6, hpm, sh, sw, sx0, sy0, sx1, sy1, GS, DS, AS, t1, t2, hX, hB⟩ := vk_all HVS.out HS.out.2.1 HS.out.2.2.1 hn'
        have HGS := hid (And.intro GS (And.intro DS (And.intro AS (And.intro hpm hX))))
        obtain ⟨hk7, hpm', mh, mw, mx0, my0, mx1, my1, GM, DM, AM, t3, t4, hX', hB'⟩ := vk_all HVM.out HM.out.2.1 HM.out.2.2.1 hn''
        have HGM := hid (And.intro GM (And.intro DM (And.intro AM hX')))
        clear GD gx gy gm gw gh v1 v2 v3 v4 GS DS AS hpm hX t1 t2 hB GM DM AM hpm' hX' t3 t4 hB'
        go_upto_region 7 with fail
        refine wp_region_inv (JV w7 [some (vR q0 q1 q2 q3), some (vR q0 q1 q2 q3), none, none, none, none] [(2, 4, [.int .i64 q0, .int .i64 q1, .int .i64 q2, .int .i64 q3]), (3, 5, [.int .i64 q0, .int .i64 q1, .int .i64 q2, .int .i64 q3])]) (fun _ => undef) (by kernel_rfl) (by kernel_rfl) [(0, 84), (1, 85), (2, 25), (3, 26)] (by kernel_rfl) (JV.start (by (repeat (first | exact gb_refl _ _ | assumption | refine gb_drew ?_ | refine gb_drewN ?_ _ | refine gb_alloc ?_ _ | refine gb_setCell ?_ (.inr (by simp <;> omega)) _)))) ?_ ?_
        · refine Steps'.cons [] (by kernel_rfl) ?_ (Steps'.cons [] (by kernel_rfl) ?_ (Steps'.cons [] (by kernel_rfl) ?_ (Steps'.cons [] (by kernel_rfl) ?_ (Steps'.cons [(0, 84), (2, 25)] (by kernel_rfl) ?_ (Steps'.cons [(1, 85), (3, 26)] (by kernel_rfl) ?_ (Steps'.nil))))))
          · intro l t w7 hJ hl hd bb hbb K hK
            have f0 := (HR7.out.kept0 hJ.gb) 0 _ rfl
            have f1 := (HR7.out.kept0 hJ.gb) 1 _ rfl
            have f2 := (HR7.out.kept0 hJ.gb) 2 _ rfl
            have f3 := (HR7.out.kept0 hJ.gb) 3 _ rfl
            simp only [puts, Act.put, List.setIfInBounds_toArray, List.set_cons_zero, List.set_cons_succ] at hbb
            subst hbb
            go_simp
            exact hK.out _ _ (hJ.pure (gb_refl _ _) rfl rfl)
          · intro l t w7 hJ hl hd bb hbb K hK
            have f0 := (HR7.out.kept0 hJ.gb) 0 _ rfl
            have f1 := (HR7.out.kept0 hJ.gb) 1 _ rfl
            have f2 := (HR7.out.kept0 hJ.gb) 2 _ rfl
            have f3 := (HR7.out.kept0 hJ.gb) 3 _ rfl
            simp only [puts, Act.put, List.setIfInBounds_toArray, List.set_cons_zero, List.set_cons_succ] at hbb
            subst hbb
            go_simp
            exact hK.out _ _ (hJ.pure (gb_refl _ _) rfl rfl)
          · intro l t w7 hJ hl hd bb hbb K hK
            simp only [puts, Act.put, List.setIfInBounds_toArray, List.set_cons_zero, List.set_cons_succ] at hbb
            subst hbb
            go_simp
            exact hK.out _ _ (hJ.alloc (vsOK2 rfl) (C := #[.int .i64 0, .int .i64 0, .int .i64 0, .int .i64 0]) (s := 4) (vals := [.int .i64 q0, .int .i64 q1, .int .i64 q2, .int .i64 q3]) (by simp) rfl hl rfl rfl)
          · intro l t w7 hJ hl hd bb hbb K hK
            simp only [puts, Act.put, List.setIfInBounds_toArray, List.set_cons_zero, List.set_cons_succ] at hbb
            subst hbb
            go_simp
            exact hK.out _ _ (hJ.alloc (vsOK2 rfl) (C := #[.int .i64 0, .int .i64 0, .int .i64 0, .int .i64 0]) (s := 5) (vals := [.int .i64 q0, .int .i64 q1, .int .i64 q2, .int .i64 q3]) (by simp) rfl hl rfl rfl)
          · intro l t w7 hJ hl hd bb hbb K hK
            obtain ⟨g, eg, -, -, hc⟩ := hJ.open (a := 2) (s := 4) (vals := [.int .i64 q0, .int .i64 q1, .int .i64 q2, .int .i64 q3]) (by simp) (hd 2 (by kernel_rfl))
            obtain ⟨⟨u0, c0⟩, z0⟩ := hc 0 (by simp)
            obtain ⟨⟨u1, c1⟩, z1⟩ := hc 1 (by simp)
            obtain ⟨⟨u2, c2⟩, z2⟩ := hc 2 (by simp)
            obtain ⟨⟨u3, c3⟩, z3⟩ := hc 3 (by simp)
            have e0 := hJ.val 0 _ rfl (hd 0 (by kernel_rfl))
            simp only [puts, Act.put, List.setIfInBounds_toArray, List.set_cons_zero, List.set_cons_succ] at hbb
            rw [e0] at hbb
            rw [eg] at hbb
            subst hbb
            go_simp
            obtain ⟨y1, y2, y3⟩ := st4 c0 c1 c2 c3
            exact hK.out undef _ (hJ.store (u := undef) (vsOK2 rfl) (a := 2) (vals := [.int .i64 q0, .int .i64 q1, .int .i64 q2, .int .i64 q3]) (by simp) rfl (hd 2 (by kernel_rfl)) eg y1 y2 y3)
          · intro l t w7 hJ hl hd bb hbb K hK
            obtain ⟨g, eg, -, -, hc⟩ := hJ.open (a := 3) (s := 5) (vals := [.int .i64 q0, .int .i64 q1, .int .i64 q2, .int .i64 q3]) (by simp) (hd 3 (by kernel_rfl))
            obtain ⟨⟨u0, c0⟩, z0⟩ := hc 0 (by simp)
            obtain ⟨⟨u1, c1⟩, z1⟩ := hc 1 (by simp)
            obtain ⟨⟨u2, c2⟩, z2⟩ := hc 2 (by simp)
            obtain ⟨⟨u3, c3⟩, z3⟩ := hc 3 (by simp)
            have e1 := hJ.val 1 _ rfl (hd 1 (by kernel_rfl))
            simp only [puts, Act.put, List.setIfInBounds_toArray, List.set_cons_zero, List.set_cons_succ] at hbb
            rw [e1] at hbb
            rw [eg] at hbb
            subst hbb
            go_simp
            obtain ⟨y1, y2, y3⟩ := st4 c0 c1 c2 c3
            exact hK.out undef _ (hJ.store (u := undef) (vsOK2 rfl) (a := 3) (vals := [.int .i64 q0, .int .i64 q1, .int .i64 q2, .int .i64 q3]) (by simp) rfl (hd 3 (by kernel_rfl)) eg y1 y2 y3)
        intro l t wc hJ hl
        obtain ⟨g1, e2, lg1, ug1, hg1⟩ := hJ.var (a := 2) (s := 4) (vals := [.int .i64 q0, .int .i64 q1, .int .i64 q2, .int .i64 q3]) (by simp) (hl 2 (by decide)) (hl 4 (by decide))
        obtain ⟨g2, e3, lg2, ug2, hg2⟩ := hJ.var (a := 3) (s := 5) (vals := [.int .i64 q0, .int .i64 q1, .int .i64 q2, .int .i64 q3]) (by simp) (hl 3 (by decide)) (hl 5 (by decide))
        have hne12 : g1 ≠ g2 := by
          intro h
          have := hJ.2.2.2.1 (2, 4, [.int .i64 q0, .int .i64 q1, .int .i64 q2, .int .i64 q3]) (3, 5, [.int .i64 q0, .int .i64 q1, .int .i64 q2, .int .i64 q3]) (by simp) (by simp) (by simp) (hl 2 (by decide)) (hl 3 (by decide))
          apply this
          show t 2 = t 3
          rw [e2, e3, h]
        obtain ⟨g1', e2', -, -, hz1⟩ := hJ.open (a := 2) (s := 4) (vals := [.int .i64 q0, .int .i64 q1, .int .i64 q2, .int .i64 q3]) (by simp) (hl 2 (by decide))
        obtain ⟨g2', e3', -, -, hz2⟩ := hJ.open (a := 3) (s := 5) (vals := [.int .i64 q0, .int .i64 q1, .int .i64 q2, .int .i64 q3]) (by simp) (hl 3 (by decide))
        have hgw := hJ.gb
        have HF1 : Hid (CellsAt wc g1 [.int .i64 q0, .int .i64 q1, .int .i64 q2, .int .i64 q3]) := hid hg1
        have HF2 : Hid (CellsAt wc g2 [.int .i64 q0, .int .i64 q1, .int .i64 q2, .int .i64 q3]) := hid hg2
        have hg1e : g1' = g1 := by rw [e2] at e2'; injection e2' with e; injection e with e; injection e with e; exact e.symm
        have hg2e : g2' = g2 := by rw [e3] at e3'; injection e3' with e; injection e with e; injection e with e; exact e.symm
        subst hg1e hg2e
        have HZ1 : Hid (∀ k, k < 4 → wc.frozen? ⟨g1', k, none⟩ = false) := hid (fun k hk => (hz1 k hk).2)
        have HZ2 : Hid (∀ k, k < 4 → wc.frozen? ⟨g2', k, none⟩ = false) := hid (fun k hk => (hz2 k hk).2)
        have HAc := hid (HA7.out.kept0 hgw)
        have HRc := hid (HR7.out.kept0 hgw)
        have HSc := hid (HS7.out.kept0 hgw)
        have HMc := hid (HM7.out.kept0 hgw)
        have HGc := hid (gb_trans HG7.out hgw)
        have lw1 : w.heap.size ≤ g1' := Nat.le_trans HG7.out.size lg1
        have lw2 : w.heap.size ≤ g2' := Nat.le_trans HG7.out.size lg2
        have ne1 : w.heap.size ≠ g1' ∧ w.heap.size + 1 ≠ g1' ∧ w.heap.size + 1 + 1 ≠ g1' ∧ w.heap.size + 1 + 1 + 1 ≠ g1' := by have h1 := HA7.out.lt; have h2 := HR7.out.lt; have h3 := HS7.out.lt; have h4 := HM7.out.lt; omega
        have ne2 : w.heap.size ≠ g2' ∧ w.heap.size + 1 ≠ g2' ∧ w.heap.size + 1 + 1 ≠ g2' ∧ w.heap.size + 1 + 1 + 1 ≠ g2' := by have h1 := HA7.out.lt; have h2 := HR7.out.lt; have h3 := HS7.out.lt; have h4 := HM7.out.lt; omega
        clear hJ hl hg1 hg2 hgw hz1 hz2 e2' e3' lg1 lg2 ug1 ug2
        simp only [puts, Act.put, List.setIfInBounds_toArray, List.set_cons_zero, List.set_cons_succ]
        rw [e2, e3]
        clear e2 e3
        go_upto_if 86 with fail
        go_cut [27, 28] (fun u27 u28 wx => ∃ f2 f3 j0 j1 ddx ddy : Int, u27 = .int .i64 ddx ∧ u28 = .int .i64 ddy ∧ Half q0 q1 q2 q3 f2 f3 j0 j1 ddx ddy ∧ CellsAt wx g1' [.int .i64 q0, .int .i64 q1, .int .i64 f2, .int .i64 f3] ∧ CellsAt wx g2' [.int .i64 j0, .int .i64 j1, .int .i64 q2, .int .i64 q3] ∧ w.grownBy wx none ∧ CellsAt wx w.heap.size [.int .i64 kk, .int .i64 Xd0, .int .i64 Yd0, .int .i64 Xd1, .int .i64 Yd1, .slice Ad n cd] ∧ CellsAt wx (w.heap.size + 1) [.int .i64 q0, .int .i64 q1, .int .i64 q2, .int .i64 q3] ∧ CellsAt wx (w.heap.size + 1 + 1) [.int .i64 k2, .int .i64 X0, .int .i64 Y0, .int .i64 X1, .int .i64 Y1, .slice As n' cs] ∧ CellsAt wx (w.heap.size + 1 + 1 + 1) [.int .i64 k3, .int .i64 Xm0, .int .i64 Ym0, .int .i64 Xm1, .int .i64 Ym1, .slice Am n'' cm])
        case first =>
          as_aux_lemma =>
          have r0' := HRc.out 0 _ rfl
          have r1' := HRc.out 1 _ rfl
          have r2' := HRc.out 2 _ rfl
          have r3' := HRc.out 3 _ rfl
          have x0 := HF1.out 0 _ rfl
          have x1 := HF1.out 1 _ rfl
          have x2 := HF1.out 2 _ rfl
          have x3 := HF1.out 3 _ rfl
          have y0 := HF2.out 0 _ rfl
          have y1 := HF2.out 1 _ rfl
          have y2 := HF2.out 2 _ rfl
          have y3 := HF2.out 3 _ rfl
          have z0 := HZ1.out 2 (by omega)
          have z1 := HZ1.out 3 (by omega)
          have z2 := HZ2.out 0 (by omega)
          have z3 := HZ2.out 1 (by omega)
          have rm := fun a b ts t w' => run_max2 a b ts t w'
          have rn := fun a b ts t w' => run_min2 a b ts t w'
          have hnr := HNR.out
          have hat := HF5.out
          unfold nr at hnr hat
          have HQE := HE.out
          cases down
          · obtain ⟨z, hz⟩ : ∃ z, hi2 q0 (lo2 q2 at_) = z := ⟨_, rfl⟩
            have hzb : q0 ≤ z ∧ z ≤ q2 := by
              rw [← hz]
              unfold hi2 lo2
              split <;> split <;> omega
            have wz : IntKind.i64.wrap (z - q0) = z - q0 := IntWalk.i64_in _ (by omega)
            have HN := hid hnr
            have HA := hid hat
            have HB := hid hzb
            have HQ2 := hid HQE
            clear hnr hat hzb HQE
            go_upto_region 13 with fail
            go_region_held3 (fun W => W.cell? ⟨w.heap.size + 1, 0, none⟩ = some (.int .i64 q0)) (first | (go_simp; done) | assumption) (fail)
            all_goals (
              go_wp2_with fail
              go_meet
              refine ⟨z, q3, z, q1, z - q0, 0, rfl, rfl, .inr ⟨rfl, rfl, rfl, rfl, rfl, HB.out.1, HB.out.2⟩, ?_, ?_, ?_, ?_, ?_, ?_, ?_⟩
              · intro i v hv
                rcases i with _ | _ | _ | _ | i <;> (first | (cases hv; go_simp; done) | (simp at hv; done))
              · intro i v hv
                rcases i with _ | _ | _ | _ | i <;> (first | (cases hv; go_simp; done) | (simp at hv; done))
              · exact (by (repeat (first | exact HGc.out | refine gb_drew ?_ | refine gb_drewN ?_ _ | refine gb_setCell ?_ (.inr lw2) _ | refine gb_setCell ?_ (.inr lw1) _)))
              · intro i v hv
                have hc := HAc.out i v hv
                have n1 := ne1.1
                have n2 := ne2.1
                go_simp
              · intro i v hv
                have hc := HRc.out i v hv
                have n1 := ne1.2.1
                have n2 := ne2.2.1
                go_simp
              · intro i v hv
                have hc := HSc.out i v hv
                have n1 := ne1.2.2.1
                have n2 := ne2.2.2.1
                go_simp
              · intro i v hv
                have hc := HMc.out i v hv
                have n1 := ne1.2.2.2
                have n2 := ne2.2.2.2
                go_simp)
          · obtain ⟨z, hz⟩ : ∃ z, hi2 q1 (lo2 q3 at_) = z := ⟨_, rfl⟩
            have hzb : q1 ≤ z ∧ z ≤ q3 := by
              rw [← hz]
              unfold hi2 lo2
              split <;> split <;> omega
            have wz : IntKind.i64.wrap (z - q1) = z - q1 := IntWalk.i64_in _ (by omega)
            have HN := hid hnr
            have HA := hid hat
            have HB := hid hzb
            have HQ2 := hid HQE
            clear hnr hat hzb HQE
            go_upto_region 11 with fail
            go_region_held3 (fun W => W.cell? ⟨w.heap.size + 1, 1, none⟩ = some (.int .i64 q1)) (first | (go_simp; done) | assumption) (fail)
            all_goals (
              go_wp2_with fail
              go_meet
              refine ⟨q2, z, q0, z, 0, z - q1, rfl, rfl, .inl ⟨rfl, rfl, rfl, rfl, rfl, HB.out.1, HB.out.2⟩, ?_, ?_, ?_, ?_, ?_, ?_, ?_⟩
              · intro i v hv
                rcases i with _ | _ | _ | _ | i <;> (first | (cases hv; go_simp; done) | (simp at hv; done))
              · intro i v hv
                rcases i with _ | _ | _ | _ | i <;> (first | (cases hv; go_simp; done) | (simp at hv; done))
              · exact (by (repeat (first | exact HGc.out | refine gb_drew ?_ | refine gb_drewN ?_ _ | refine gb_setCell ?_ (.inr lw2) _ | refine gb_setCell ?_ (.inr lw1) _)))
              · intro i v hv
                have hc := HAc.out i v hv
                have n1 := ne1.1
                have n2 := ne2.1
                go_simp
              · intro i v hv
                have hc := HRc.out i v hv
                have n1 := ne1.2.1
                have n2 := ne2.2.1
                go_simp
              · intro i v hv
                have hc := HSc.out i v hv
                have n1 := ne1.2.2.1
                have n2 := ne2.2.2.1
                go_simp
              · intro i v hv
                have hc := HMc.out i v hv
                have n1 := ne1.2.2.2
                have n2 := ne2.2.2.2
                go_simp)
        case rest =>
        obtain ⟨f2, f3, j0, j1, ddx, ddy, rfl, rfl, hH, hF1, hF2, hgx, hA, hR, hS, hM⟩ := hcut
        obtain ⟨wx, hwx⟩ : ∃ wx : World, wx = wc := ⟨_, rfl⟩
        subst hwx
        have HH := hid hH
        have HP1 := hid hF1
        have HP2 := hid hF2
        have HGx := hid hgx
        have HAx := hid hA
        have HRx := hid hR
        have HSx := hid hS
        have HMx := hid hM
        clear hH hF1 hF2 hgx hA hR hS hM HZ1 HZ2 HF1 HF2 HAc HRc HSc HMc HGc
        have a0' := HAx.out 0 _ rfl
        have a1' := HAx.out 1 _ rfl
        have a2' := HAx.out 2 _ rfl
        have a3' := HAx.out 3 _ rfl
        have a4' := HAx.out 4 _ rfl
        have a5' := HAx.out 5 _ rfl
        have r0' := HRx.out 0 _ rfl
        have r1' := HRx.out 1 _ rfl
        have r2' := HRx.out 2 _ rfl
        have r3' := HRx.out 3 _ rfl
        have s0' := HSx.out 0 _ rfl
        have s1' := HSx.out 1 _ rfl
        have s2' := HSx.out 2 _ rfl
        have s3' := HSx.out 3 _ rfl
        have s4' := HSx.out 4 _ rfl
        have s5' := HSx.out 5 _ rfl
        have m0' := HMx.out 0 _ rfl
        have m1' := HMx.out 1 _ rfl
        have m2' := HMx.out 2 _ rfl
        have m3' := HMx.out 3 _ rfl
        have m4' := HMx.out 4 _ rfl
        have m5' := HMx.out 5 _ rfl
        go_wp2_with fail
        refine (idrawmask_of (q := resB kk dw (In1 q0 q1 q2 q3 px py qx qy Xd0 Yd0 sx0 sy0 mx0 my0 sh sw mh mw) (fun r c => pxM kk k2 k3 o (toP dw (sz kk) p r c) (srcAt k2 sw s q0 q1 px py Xd0 Yd0 sx0 sy0 r c) (srcAt k3 mw m q0 q1 qx qy Xd0 Yd0 mx0 my0 r c)) p) (by have := HK.out; omega) (HD.out.1.kept0 (gb_trans HGx.out (by (repeat (first | exact gb_refl _ _ | assumption | refine gb_drew ?_ | refine gb_drewN ?_ _ | refine gb_alloc ?_ _ | refine gb_setCell ?_ (.inr (by simp <;> omega)) _))))) (HS.out.1.kept0 (gb_trans HGx.out (by (repeat (first | exact gb_refl _ _ | assumption | refine gb_drew ?_ | refine gb_drewN ?_ _ | refine gb_alloc ?_ _ | refine gb_setCell ?_ (.inr (by simp <;> omega)) _))))) (HM.out.1.kept0 (gb_trans HGx.out (by (repeat (first | exact gb_refl _ _ | assumption | refine gb_drew ?_ | refine gb_drewN ?_ _ | refine gb_alloc ?_ _ | refine gb_setCell ?_ (.inr (by simp <;> omega)) _))))) (vk_dat (by have := HK.out; omega) HV.out HD.out.2.1 hn) HGS.out.2.1 HGM.out.2.1
          (fun w' B B' B'' c c' c'' b b' b'' A A' A'' td ts tm h1 h2 h3 h4 h5 => mdm1_all ho (by have := HK.out; omega) h1 h2 h3 HGD.out.1 HGS.out.1 HGM.out.1 HD.out.2.1 HS.out.2.1 HM.out.2.1 HGS.out.2.2.2.1 h4 h5 (by have h1 := HNR.out; unfold nr at h1; unfold sm; omega) (by have h1 := HNR.out; unfold nr at h1; unfold sm; omega) (by have h1 := HNR.out; have h2 := HXY.out; unfold nr at h1 h2; unfold sm; omega) (by have h1 := HNR.out; have h2 := HXY.out; unfold nr at h1 h2; unfold sm; omega) (by have h1 := HNR.out; have h2 := HXY.out; unfold nr at h1 h2; unfold sm; omega) (by have h1 := HNR.out; have h2 := HXY.out; unfold nr at h1 h2; unfold sm; omega) (by have h1 := HNR.out; have h2 := HXY.out; unfold nr at h1 h2; unfold sm; omega) (by have h1 := HNR.out; have h2 := HXY.out; unfold nr at h1 h2; unfold sm; omega) (by have h1 := HNR.out; have h2 := HXY.out; unfold nr at h1 h2; unfold sm; omega) (by have h1 := HNR.out; have h2 := HXY.out; unfold nr at h1 h2; unfold sm; omega) (by have h1 := HNR.out; unfold nr at h1; unfold sm; omega) (by have h1 := HNR.out; unfold nr at h1; unfold sm; omega))).mono ?_
        rintro e w9 ⟨A9, c9, rfl, ho9, hg9⟩
        obtain ⟨q, hq⟩ : ∃ q, resB kk dw (In1 q0 q1 q2 q3 px py qx qy Xd0 Yd0 sx0 sy0 mx0 my0 sh sw mh mw) (fun r c => pxM kk k2 k3 o (toP dw (sz kk) p r c) (srcAt k2 sw s q0 q1 px py Xd0 Yd0 sx0 sy0 r c) (srcAt k3 mw m q0 q1 qx qy Xd0 Yd0 mx0 my0 r c)) p = q := ⟨_, rfl⟩
        rw [hq] at ho9
        have HQ := hid hq
        have hh9 := gb_trans (a := wx) (by (repeat (first | exact gb_refl _ _ | assumption | refine gb_drew ?_ | refine gb_drewN ?_ _ | refine gb_alloc ?_ _ | refine gb_setCell ?_ (.inr (by simp <;> omega)) _))) hg9
        have HG9 := hid (gb_trans HGx.out hh9)
        have HA9 := hid (HAx.out.kept0 hh9)
        have HS9 := hid (HSx.out.kept0 hh9)
        have HM9 := hid (HMx.out.kept0 hh9)
        have HP19 := hid (HP1.out.kept0 hh9)
        have HP29 := hid (HP2.out.kept0 hh9)
        have HO9 := hid ho9
        have hle9 := ho9.le
        clear a0' a1' a2' a3' a4' a5' r0' r1' r2' r3' s0' s1' s2' s3' s4' s5' m0' m1' m2' m3' m4' m5' hq ho9 hg9 hh9
        have a0' := HA9.out 0 _ rfl
        have a1' := HA9.out 1 _ rfl
        have a2' := HA9.out 2 _ rfl
        have a3' := HA9.out 3 _ rfl
        have a4' := HA9.out 4 _ rfl
        have a5' := HA9.out 5 _ rfl
        have s0' := HS9.out 0 _ rfl
        have s1' := HS9.out 1 _ rfl
        have s2' := HS9.out 2 _ rfl
        have s3' := HS9.out 3 _ rfl
        have s4' := HS9.out 4 _ rfl
        have s5' := HS9.out 5 _ rfl
        have m0' := HM9.out 0 _ rfl
        have m1' := HM9.out 1 _ rfl
        have m2' := HM9.out 2 _ rfl
        have m3' := HM9.out 3 _ rfl
        have m4' := HM9.out 4 _ rfl
        have m5' := HM9.out 5 _ rfl
        have p0' := HP19.out 0 _ rfl
        have p1' := HP19.out 1 _ rfl
        have p2' := HP19.out 2 _ rfl
        have p3' := HP19.out 3 _ rfl
        have zA9 := HA9.out.lt
        have zS9 := HS9.out.lt
        have zM9 := HM9.out.lt
        have zP9 := HP19.out.lt
        go_wp2_with fail
        refine (idrawmask_of (q := resB kk dw (In1 q0 q1 f2 f3 px py qx qy Xd0 Yd0 sx0 sy0 mx0 my0 sh sw mh mw) (fun r c => pxM kk k2 k3 o (toP dw (sz kk) p r c) (srcAt k2 sw s q0 q1 px py Xd0 Yd0 sx0 sy0 r c) (srcAt k3 mw m q0 q1 qx qy Xd0 Yd0 mx0 my0 r c)) p) (by have := HK.out; omega) (HD.out.1.kept0 (gb_trans HG9.out (by (repeat (first | exact gb_refl _ _ | assumption | refine gb_drew ?_ | refine gb_drewN ?_ _ | refine gb_alloc ?_ _ | refine gb_setCell ?_ (.inr (by simp <;> omega)) _))))) (HS.out.1.kept0 (gb_trans HG9.out (by (repeat (first | exact gb_refl _ _ | assumption | refine gb_drew ?_ | refine gb_drewN ?_ _ | refine gb_alloc ?_ _ | refine gb_setCell ?_ (.inr (by simp <;> omega)) _))))) (HM.out.1.kept0 (gb_trans HG9.out (by (repeat (first | exact gb_refl _ _ | assumption | refine gb_drew ?_ | refine gb_drewN ?_ _ | refine gb_alloc ?_ _ | refine gb_setCell ?_ (.inr (by simp <;> omega)) _))))) (vk_dat (by have := HK.out; omega) HV.out HD.out.2.1 hn) HGS.out.2.1 HGM.out.2.1
          (fun w' B B' B'' c c' c'' b b' b'' A A' A'' td ts tm h1 h2 h3 h4 h5 => mdm1_all ho (by have := HK.out; omega) h1 h2 h3 HGD.out.1 HGS.out.1 HGM.out.1 HD.out.2.1 HS.out.2.1 HM.out.2.1 HGS.out.2.2.2.1 h4 h5 (by have h1 := HNR.out; have h2 := HXY.out; have h3 := HH.out; have h4 := HE.out; unfold nr at h1 h2; unfold Half at h3; unfold sm; omega) (by have h1 := HNR.out; have h2 := HXY.out; have h3 := HH.out; have h4 := HE.out; unfold nr at h1 h2; unfold Half at h3; unfold sm; omega) (by have h1 := HNR.out; have h2 := HXY.out; have h3 := HH.out; have h4 := HE.out; unfold nr at h1 h2; unfold Half at h3; unfold sm; omega) (by have h1 := HNR.out; have h2 := HXY.out; have h3 := HH.out; have h4 := HE.out; unfold nr at h1 h2; unfold Half at h3; unfold sm; omega) (by have h1 := HNR.out; have h2 := HXY.out; have h3 := HH.out; have h4 := HE.out; unfold nr at h1 h2; unfold Half at h3; unfold sm; omega) (by have h1 := HNR.out; have h2 := HXY.out; have h3 := HH.out; have h4 := HE.out; unfold nr at h1 h2; unfold Half at h3; unfold sm; omega) (by have h1 := HNR.out; have h2 := HXY.out; have h3 := HH.out; have h4 := HE.out; unfold nr at h1 h2; unfold Half at h3; unfold sm; omega) (by have h1 := HNR.out; have h2 := HXY.out; have h3 := HH.out; have h4 := HE.out; unfold nr at h1 h2; unfold Half at h3; unfold sm; omega) (by have h1 := HNR.out; have h2 := HXY.out; have h3 := HH.out; have h4 := HE.out; unfold nr at h1 h2; unfold Half at h3; unfold sm; omega) (by have h1 := HNR.out; have h2 := HXY.out; have h3 := HH.out; have h4 := HE.out; unfold nr at h1 h2; unfold Half at h3; unfold sm; omega) (by have h1 := HNR.out; have h2 := HXY.out; have h3 := HH.out; have h4 := HE.out; unfold nr at h1 h2; unfold Half at h3; unfold sm; omega) (by have h1 := HNR.out; have h2 := HXY.out; have h3 := HH.out; have h4 := HE.out; unfold nr at h1 h2; unfold Half at h3; unfold sm; omega))).mono ?_
        rintro e w10 ⟨A10, c10, rfl, ho10, hg10⟩
        have zb := hg10.size
        have k0' : w10.cell? ⟨w9.heap.size, 0, none⟩ = some (.int .i64 kk) := (gb_cell0 hg10 (p := ⟨w9.heap.size, 0, none⟩) (by simp)).trans (by go_simp)
        have k1' : w10.cell? ⟨w9.heap.size, 1, none⟩ = some (.int .i64 Xd0) := (gb_cell0 hg10 (p := ⟨w9.heap.size, 1, none⟩) (by simp)).trans (by go_simp)
        have k2' : w10.cell? ⟨w9.heap.size, 2, none⟩ = some (.int .i64 Yd0) := (gb_cell0 hg10 (p := ⟨w9.heap.size, 2, none⟩) (by simp)).trans (by go_simp)
        have k3' : w10.cell? ⟨w9.heap.size, 3, none⟩ = some (.int .i64 Xd1) := (gb_cell0 hg10 (p := ⟨w9.heap.size, 3, none⟩) (by simp)).trans (by go_simp)
        have k4' : w10.cell? ⟨w9.heap.size, 4, none⟩ = some (.int .i64 Yd1) := (gb_cell0 hg10 (p := ⟨w9.heap.size, 4, none⟩) (by simp)).trans (by go_simp)
        have k5' : w10.cell? ⟨w9.heap.size, 5, none⟩ = some (.slice Ad n cd) := (gb_cell0 hg10 (p := ⟨w9.heap.size, 5, none⟩) (by simp)).trans (by go_simp)
        have kf : w10.frozen? ⟨w9.heap.size, 5, none⟩ = false := (gb_free0 hg10 (p := ⟨w9.heap.size, 5, none⟩) (by simp)).trans (by go_simp)
        have hh10 := gb_trans (a := w9) (by (repeat (first | exact gb_refl _ _ | assumption | refine gb_drew ?_ | refine gb_drewN ?_ _ | refine gb_alloc ?_ _ | refine gb_setCell ?_ (.inr (by simp <;> omega)) _))) hg10
        have HG10 := hid (gb_trans HG9.out hh10)
        have HA10 := hid (HA9.out.kept0 hh10)
        have HS10 := hid (HS9.out.kept0 hh10)
        have HM10 := hid (HM9.out.kept0 hh10)
        have HP210 := hid (HP29.out.kept0 hh10)
        have HO910 := hid (HO9.out.kept0 hh10)
        have b9 := own_blk HO9.out
        have b10 := own_blk ho10
        have b10' : ∀ a, A10 = some a → a.block ≠ w9.heap.size := fun a ha e => by
          have h := (b10 a ha).1
          simp at h
          omega
        have HO10 := hid ho10
        obtain ⟨dd1, dd2⟩ := ho10.le
        clear a0' a1' a2' a3' a4' a5' s0' s1' s2' s3' s4' s5' m0' m1' m2' m3' m4' m5' p0' p1' p2' p3' ho10 hg10 b10
        go_upto_region 17 with fail
        obtain ⟨wz, hwz⟩ : ∃ wz : World, wz = w10.setCell ⟨w9.heap.size, 5, none⟩ (.slice A10 n c10) := ⟨_, rfl⟩
        rw [← hwz]
        have hgz : w10.grownBy wz (some w9.heap.size) := by rw [hwz]; exact gb_setCell (gb_refl _ _) (.inl rfl) _
        have HGz : Hid (w.grownBy wz none) := hid (by rw [hwz]; exact gb_setCell HG10.out (.inr HG9.out.size) _)
        have HAz := hid (HA10.out.keptN hgz (by omega))
        have HSz := hid (HS10.out.keptN hgz (by omega))
        have HMz := hid (HM10.out.keptN hgz (by omega))
        have HPz := hid (HP210.out.keptN hgz (by have := HP29.out.lt; omega))
        have HOz := hid (HO910.out.kept hgz (fun a ha e => by have := (b9 a ha).2; omega))
        have HTz' := HO10.out.kept hgz b10'
        have hkz : CellsAt wz w9.heap.size [.int .i64 kk, .int .i64 Xd0, .int .i64 Yd0, .int .i64 Xd1, .int .i64 Yd1, .slice A10 n c10] := fun i v hv => by
          rw [hwz]
          rcases i with _ | _ | _ | _ | _ | _ | i <;> (first | (cases hv; go_simp; done) | (simp at hv; done))
        have HKz := hid hkz
        obtain ⟨hf, hhf⟩ : ∃ hf, cutN n (resB kk dw (In1 q0 q1 f2 f3 px py qx qy Xd0 Yd0 sx0 sy0 mx0 my0 sh sw mh mw) (fun r c => pxM kk k2 k3 o (toP dw (sz kk) p r c) (srcAt k2 sw s q0 q1 px py Xd0 Yd0 sx0 sy0 r c) (srcAt k3 mw m q0 q1 qx qy Xd0 Yd0 mx0 my0 r c)) p) = hf := ⟨_, rfl⟩
        have HHF := hid hhf
        have hbf : By hf := by
          rw [← hhf]
          exact by_res HGD.out.2.2.2.1 HD.out.2.1 (fun r c ch hch => pxM_by (by have := HK.out; omega) (by_toP HD.out.2.1 _ _ _ _) (by_srcP HS.out.2.1 _ _) (by_srcP HM.out.2.1 _ _) (pm_src HGS.out.2.2.2.1 _ _) hch)
        have HBF := hid hbf
        have HTz := hid (HTz'.congr (q := hf) (fun i hi => by rw [← hhf]; exact (cutN_lt hi).symm))
        obtain ⟨Z, hZ⟩ : ∃ Z, strOfNums (byL n q) = Z := ⟨_, rfl⟩
        have HZ := hid hZ
        have zAz := HAz.out.lt
        have zKz := HKz.out.lt
        have a5' := HAz.out 5 _ rfl
        have k5' := HKz.out 5 _ rfl
        clear hgz hwz hkz hhf hbf HTz' hZ k0' k1' k2' k3' k4' kf zb zA9 zS9 zM9 zP9 b9 b10' hh10
        go_upto_region 19 with fail
        clear a5' k5' zAz zKz
        refine wp_region_inv (JP wz [some (vI kk Xd0 Yd0 Xd1 Yd1 A10 n c10), some (vR j0 j1 q2 q3), some (vI k2 X0 Y0 X1 Y1 As n' cs), some (.int .i64 px), some (.int .i64 ddx), some (.int .i64 (px + ddx)), some (.int .i64 py), some (.int .i64 ddy), some (.int .i64 (py + ddy)), some (vI k3 Xm0 Ym0 Xm1 Ym1 Am n'' cm), some (.int .i64 qx), some (.int .i64 ddx), some (.int .i64 (qx + ddx)), some (.int .i64 qy), some (.int .i64 ddy), some (.int .i64 (qy + ddy)), some (.int .i64 o), none, some (.string Z), some (.slice A9 n c9), some (.string Z), some (.bool true), some (.bool true)] [] [17] wz.heap.size n q) (fun _ => undef) (by kernel_rfl) (by kernel_rfl) [(0, 154), (1, 155), (2, 156), (3, 157), (4, 158), (5, 159), (6, 160), (7, 161), (8, 162), (9, 163), (10, 164), (11, 165), (12, 166), (13, 167), (14, 168), (15, 169), (16, 170), (17, 171), (18, 172), (19, 173), (20, 174), (21, 175), (22, 22)] (by kernel_rfl) (JP.start (by (repeat (first | exact gb_refl _ _ | assumption | refine gb_drew ?_ | refine gb_drewN ?_ _ | refine gb_alloc ?_ _ | refine gb_setCell ?_ (.inr (by simp <;> omega)) _)))) ?_ ?_
        · refine Steps'.cons [] (by kernel_rfl) ?_ (Steps'.cons [] (by kernel_rfl) ?_ (Steps'.cons [] (by kernel_rfl) ?_ (Steps'.cons [] (by kernel_rfl) ?_ (Steps'.cons [] (by kernel_rfl) ?_ (Steps'.cons [(3, 157), (4, 158)] (by kernel_rfl) ?_ (Steps'.cons [] (by kernel_rfl) ?_ (Steps'.cons [] (by kernel_rfl) ?_ (Steps'.cons [(6, 160), (7, 161)] (by kernel_rfl) ?_ (Steps'.cons [] (by kernel_rfl) ?_ (Steps'.cons [] (by kernel_rfl) ?_ (Steps'.cons [] (by kernel_rfl) ?_ (Steps'.cons [(10, 164), (11, 165)] (by kernel_rfl) ?_ (Steps'.cons [] (by kernel_rfl) ?_ (Steps'.cons [] (by kernel_rfl) ?_ (Steps'.cons [(13, 167), (14, 168)] (by kernel_rfl) ?_ (Steps'.cons [] (by kernel_rfl) ?_ (Steps'.cons [(0, 154), (1, 155), (2, 156), (5, 159), (8, 162), (9, 163), (12, 166), (15, 169), (16, 170)] (by kernel_rfl) ?_ (Steps'.cons [(17, 171)] (by kernel_rfl) ?_ (Steps'.cons [] (by kernel_rfl) ?_ (Steps'.cons [(19, 173)] (by kernel_rfl) ?_ (Steps'.cons [(18, 172), (20, 174)] (by kernel_rfl) ?_ (Steps'.cons [(21, 175)] (by kernel_rfl) ?_ (Steps'.nil)))))))))))))))))))))))
          · intro l t w7 hJ hl hd bb hbb K hK
            have f0 := (HKz.out.kept0 hJ.1.gb) 0 _ rfl
            have f1 := (HKz.out.kept0 hJ.1.gb) 1 _ rfl
            have f2 := (HKz.out.kept0 hJ.1.gb) 2 _ rfl
            have f3 := (HKz.out.kept0 hJ.1.gb) 3 _ rfl
            have f4 := (HKz.out.kept0 hJ.1.gb) 4 _ rfl
            have f5 := (HKz.out.kept0 hJ.1.gb) 5 _ rfl
            simp only [puts, Act.put, List.setIfInBounds_toArray, List.set_cons_zero, List.set_cons_succ] at hbb
            subst hbb
            go_simp
            exact hK.out _ _ (hJ.pure (gb_refl _ _) rfl rfl rfl)
          · intro l t w7 hJ hl hd bb hbb K hK
            have f0 := (HPz.out.kept0 hJ.1.gb) 0 _ rfl
            have f1 := (HPz.out.kept0 hJ.1.gb) 1 _ rfl
            have f2 := (HPz.out.kept0 hJ.1.gb) 2 _ rfl
            have f3 := (HPz.out.kept0 hJ.1.gb) 3 _ rfl
            simp only [puts, Act.put, List.setIfInBounds_toArray, List.set_cons_zero, List.set_cons_succ] at hbb
            subst hbb
            go_simp
            exact hK.out _ _ (hJ.pure (gb_refl _ _) rfl rfl rfl)
          · intro l t w7 hJ hl hd bb hbb K hK
            have f0 := (HSz.out.kept0 hJ.1.gb) 0 _ rfl
            have f1 := (HSz.out.kept0 hJ.1.gb) 1 _ rfl
            have f2 := (HSz.out.kept0 hJ.1.gb) 2 _ rfl
            have f3 := (HSz.out.kept0 hJ.1.gb) 3 _ rfl
            have f4 := (HSz.out.kept0 hJ.1.gb) 4 _ rfl
            have f5 := (HSz.out.kept0 hJ.1.gb) 5 _ rfl
            simp only [puts, Act.put, List.setIfInBounds_toArray, List.set_cons_zero, List.set_cons_succ] at hbb
            subst hbb
            go_simp
            exact hK.out _ _ (hJ.pure (gb_refl _ _) rfl rfl rfl)
          · intro l t w7 hJ hl hd bb hbb K hK
            simp only [puts, Act.put, List.setIfInBounds_toArray, List.set_cons_zero, List.set_cons_succ] at hbb
            subst hbb
            go_simp
            exact hK.out _ _ (hJ.pure (gb_refl _ _) rfl rfl rfl)
          · intro l t w7 hJ hl hd bb hbb K hK
            simp only [puts, Act.put, List.setIfInBounds_toArray, List.set_cons_zero, List.set_cons_succ] at hbb
            subst hbb
            go_simp
            exact hK.out _ _ (hJ.pure (gb_refl _ _) rfl rfl rfl)
          · intro l t w7 hJ hl hd bb hbb K hK
            have h1 := HXY.out
            have h2 := HNR.out
            have h3 := HH.out
            have h4 := HE.out
            unfold nr at h1 h2
            unfold Half at h3
            have wq : IntKind.i64.wrap (px + ddx) = px + ddx := IntWalk.i64_in _ (by omega)
            clear h1 h2 h3 h4
            have e3 := hJ.1.val 3 _ rfl (hd 3 (by kernel_rfl))
            have e4 := hJ.1.val 4 _ rfl (hd 4 (by kernel_rfl))
            simp only [puts, Act.put, List.setIfInBounds_toArray, List.set_cons_zero, List.set_cons_succ] at hbb
            rw [e3] at hbb
            rw [e4] at hbb
            subst hbb
            go_simp
            exact hK.out _ _ (hJ.pure (gb_refl _ _) rfl rfl rfl)
          · intro l t w7 hJ hl hd bb hbb K hK
            simp only [puts, Act.put, List.setIfInBounds_toArray, List.set_cons_zero, List.set_cons_succ] at hbb
            subst hbb
            go_simp
            exact hK.out _ _ (hJ.pure (gb_refl _ _) rfl rfl rfl)
          · intro l t w7 hJ hl hd bb hbb K hK
            simp only [puts, Act.put, List.setIfInBounds_toArray, List.set_cons_zero, List.set_cons_succ] at hbb
            subst hbb
            go_simp
            exact hK.out _ _ (hJ.pure (gb_refl _ _) rfl rfl rfl)
          · intro l t w7 hJ hl hd bb hbb K hK
            have h1 := HXY.out
            have h2 := HNR.out
            have h3 := HH.out
            have h4 := HE.out
            unfold nr at h1 h2
            unfold Half at h3
            have wq : IntKind.i64.wrap (py + ddy) = py + ddy := IntWalk.i64_in _ (by omega)
            clear h1 h2 h3 h4
            have e6 := hJ.1.val 6 _ rfl (hd 6 (by kernel_rfl))
            have e7 := hJ.1.val 7 _ rfl (hd 7 (by kernel_rfl))
            simp only [puts, Act.put, List.setIfInBounds_toArray, List.set_cons_zero, List.set_cons_succ] at hbb
            rw [e6] at hbb
            rw [e7] at hbb
            subst hbb
            go_simp
            exact hK.out _ _ (hJ.pure (gb_refl _ _) rfl rfl rfl)
          · intro l t w7 hJ hl hd bb hbb K hK
            have f0 := (HMz.out.kept0 hJ.1.gb) 0 _ rfl
            have f1 := (HMz.out.kept0 hJ.1.gb) 1 _ rfl
            have f2 := (HMz.out.kept0 hJ.1.gb) 2 _ rfl
            have f3 := (HMz.out.kept0 hJ.1.gb) 3 _ rfl
            have f4 := (HMz.out.kept0 hJ.1.gb) 4 _ rfl
            have f5 := (HMz.out.kept0 hJ.1.gb) 5 _ rfl
            simp only [puts, Act.put, List.setIfInBounds_toArray, List.set_cons_zero, List.set_cons_succ] at hbb
            subst hbb
            go_simp
            exact hK.out _ _ (hJ.pure (gb_refl _ _) rfl rfl rfl)
          · intro l t w7 hJ hl hd bb hbb K hK
            simp only [puts, Act.put, List.setIfInBounds_toArray, List.set_cons_zero, List.set_cons_succ] at hbb
            subst hbb
            go_simp
            exact hK.out _ _ (hJ.pure (gb_refl _ _) rfl rfl rfl)
          · intro l t w7 hJ hl hd bb hbb K hK
            simp only [puts, Act.put, List.setIfInBounds_toArray, List.set_cons_zero, List.set_cons_succ] at hbb
            subst hbb
            go_simp
            exact hK.out _ _ (hJ.pure (gb_refl _ _) rfl rfl rfl)
          · intro l t w7 hJ hl hd bb hbb K hK
            have h1 := HXY.out
            have h2 := HNR.out
            have h3 := HH.out
            have h4 := HE.out
            unfold nr at h1 h2
            unfold Half at h3
            have wq : IntKind.i64.wrap (qx + ddx) = qx + ddx := IntWalk.i64_in _ (by omega)
            clear h1 h2 h3 h4
            have e10 := hJ.1.val 10 _ rfl (hd 10 (by kernel_rfl))
            have e11 := hJ.1.val 11 _ rfl (hd 11 (by kernel_rfl))
            simp only [puts, Act.put, List.setIfInBounds_toArray, List.set_cons_zero, List.set_cons_succ] at hbb
            rw [e10] at hbb
            rw [e11] at hbb
            subst hbb
            go_simp
            exact hK.out _ _ (hJ.pure (gb_refl _ _) rfl rfl rfl)
          · intro l t w7 hJ hl hd bb hbb K hK
            simp only [puts, Act.put, List.setIfInBounds_toArray, List.set_cons_zero, List.set_cons_succ] at hbb
            subst hbb
            go_simp
            exact hK.out _ _ (hJ.pure (gb_refl _ _) rfl rfl rfl)
          · intro l t w7 hJ hl hd bb hbb K hK
            simp only [puts, Act.put, List.setIfInBounds_toArray, List.set_cons_zero, List.set_cons_succ] at hbb
            subst hbb
            go_simp
            exact hK.out _ _ (hJ.pure (gb_refl _ _) rfl rfl rfl)
          · intro l t w7 hJ hl hd bb hbb K hK
            have h1 := HXY.out
            have h2 := HNR.out
            have h3 := HH.out
            have h4 := HE.out
            unfold nr at h1 h2
            unfold Half at h3
            have wq : IntKind.i64.wrap (qy + ddy) = qy + ddy := IntWalk.i64_in _ (by omega)
            clear h1 h2 h3 h4
            have e13 := hJ.1.val 13 _ rfl (hd 13 (by kernel_rfl))
            have e14 := hJ.1.val 14 _ rfl (hd 14 (by kernel_rfl))
            simp only [puts, Act.put, List.setIfInBounds_toArray, List.set_cons_zero, List.set_cons_succ] at hbb
            rw [e13] at hbb
            rw [e14] at hbb
            subst hbb
            go_simp
            exact hK.out _ _ (hJ.pure (gb_refl _ _) rfl rfl rfl)
          · intro l t w7 hJ hl hd bb hbb K hK
            simp only [puts, Act.put, List.setIfInBounds_toArray, List.set_cons_zero, List.set_cons_succ] at hbb
            subst hbb
            go_simp
            exact hK.out _ _ (hJ.pure (gb_refl _ _) rfl rfl rfl)
          · intro l t w7 hJ hl hd bb hbb K hK
            have e0 := hJ.1.val 0 _ rfl (hd 0 (by kernel_rfl))
            have e1 := hJ.1.val 1 _ rfl (hd 1 (by kernel_rfl))
            have e2 := hJ.1.val 2 _ rfl (hd 2 (by kernel_rfl))
            have e5 := hJ.1.val 5 _ rfl (hd 5 (by kernel_rfl))
            have e8 := hJ.1.val 8 _ rfl (hd 8 (by kernel_rfl))
            have e9 := hJ.1.val 9 _ rfl (hd 9 (by kernel_rfl))
            have e12 := hJ.1.val 12 _ rfl (hd 12 (by kernel_rfl))
            have e15 := hJ.1.val 15 _ rfl (hd 15 (by kernel_rfl))
            have e16 := hJ.1.val 16 _ rfl (hd 16 (by kernel_rfl))
            simp only [puts, Act.put, List.setIfInBounds_toArray, List.set_cons_zero, List.set_cons_succ] at hbb
            rw [e0] at hbb
            rw [e1] at hbb
            rw [e2] at hbb
            rw [e5] at hbb
            rw [e8] at hbb
            rw [e9] at hbb
            rw [e12] at hbb
            rw [e15] at hbb
            rw [e16] at hbb
            subst hbb
            go_simp
            have DD : Dat kk Xd0 Yd0 Xd1 Yd1 Xd0 Yd0 Xd1 Yd1 n hf := ⟨HBF.out, (vk_dat (by have := HK.out; omega) HV.out HD.out.2.1 hn).2⟩
            refine (idrawmask_of (q := resB kk dw (In1 j0 j1 q2 q3 (px + ddx) (py + ddy) (qx + ddx) (qy + ddy) Xd0 Yd0 sx0 sy0 mx0 my0 sh sw mh mw) (fun r c => pxM kk k2 k3 o (toP dw (sz kk) hf r c) (srcAt k2 sw s j0 j1 (px + ddx) (py + ddy) Xd0 Yd0 sx0 sy0 r c) (srcAt k3 mw m j0 j1 (qx + ddx) (qy + ddy) Xd0 Yd0 mx0 my0 r c)) hf) (by have := HK.out; omega) (HTz.out.rd.kept0 hJ.1.gb) (HS.out.1.kept0 (gb_trans HGz.out hJ.1.gb)) (HM.out.1.kept0 (gb_trans HGz.out hJ.1.gb)) DD HGS.out.2.1 HGM.out.2.1
              (fun w' B B' B'' c c' c'' b b' b'' A A' A'' td ts tm h1 h2 h3 h4 h5 => mdm1_all ho (by have := HK.out; omega) h1 h2 h3 HGD.out.1 HGS.out.1 HGM.out.1 HBF.out HS.out.2.1 HM.out.2.1 HGS.out.2.2.2.1 h4 h5 (by have h1 := HNR.out; have h2 := HXY.out; have h3 := HH.out; have h4 := HE.out; unfold nr at h1 h2; unfold Half at h3; unfold sm; omega) (by have h1 := HNR.out; have h2 := HXY.out; have h3 := HH.out; have h4 := HE.out; unfold nr at h1 h2; unfold Half at h3; unfold sm; omega) (by have h1 := HNR.out; have h2 := HXY.out; have h3 := HH.out; have h4 := HE.out; unfold nr at h1 h2; unfold Half at h3; unfold sm; omega) (by have h1 := HNR.out; have h2 := HXY.out; have h3 := HH.out; have h4 := HE.out; unfold nr at h1 h2; unfold Half at h3; unfold sm; omega) (by have h1 := HNR.out; have h2 := HXY.out; have h3 := HH.out; have h4 := HE.out; unfold nr at h1 h2; unfold Half at h3; unfold sm; omega) (by have h1 := HNR.out; have h2 := HXY.out; have h3 := HH.out; have h4 := HE.out; unfold nr at h1 h2; unfold Half at h3; unfold sm; omega) (by have h1 := HNR.out; have h2 := HXY.out; have h3 := HH.out; have h4 := HE.out; unfold nr at h1 h2; unfold Half at h3; unfold sm; omega) (by have h1 := HNR.out; have h2 := HXY.out; have h3 := HH.out; have h4 := HE.out; unfold nr at h1 h2; unfold Half at h3; unfold sm; omega) (by have h1 := HNR.out; have h2 := HXY.out; have h3 := HH.out; have h4 := HE.out; unfold nr at h1 h2; unfold Half at h3; unfold sm; omega) (by have h1 := HNR.out; have h2 := HXY.out; have h3 := HH.out; have h4 := HE.out; unfold nr at h1 h2; unfold Half at h3; unfold sm; omega) (by have h1 := HNR.out; have h2 := HXY.out; have h3 := HH.out; have h4 := HE.out; unfold nr at h1 h2; unfold Half at h3; unfold sm; omega) (by have h1 := HNR.out; have h2 := HXY.out; have h3 := HH.out; have h4 := HE.out; unfold nr at h1 h2; unfold Half at h3; unfold sm; omega))).mono ?_
            rintro e w8 ⟨A8, c8, rfl, ho8, hg⟩
            have hme : ∀ i, i < n → (resB kk dw (In1 j0 j1 q2 q3 (px + ddx) (py + ddy) (qx + ddx) (qy + ddy) Xd0 Yd0 sx0 sy0 mx0 my0 sh sw mh mw) (fun r c => pxM kk k2 k3 o (toP dw (sz kk) hf r c) (srcAt k2 sw s j0 j1 (px + ddx) (py + ddy) Xd0 Yd0 sx0 sy0 r c) (srcAt k3 mw m j0 j1 (qx + ddx) (qy + ddy) Xd0 Yd0 mx0 my0 r c)) hf) i = q i := fun i hi => (halves_eq (by have := HK.out; omega) HH.out (by rw [← HGD.out.2.2.2.1]; exact HHF.out) (by rw [← HGD.out.2.2.2.1]; exact hi)).trans (by rw [HQ.out])
            exact hK.out _ _ (hJ.own hg rfl rfl ((ho8.low hJ.1.gb.size).congr hme))
          · intro l t w7 hJ hl hd bb hbb K hK
            obtain ⟨A8, c8, e17, ho8⟩ := hJ.2 17 (by simp) (hd 17 (by kernel_rfl))
            have z1 := convO ho8
            rw [HZ.out] at z1
            simp only [puts, Act.put, List.setIfInBounds_toArray, List.set_cons_zero, List.set_cons_succ] at hbb
            rw [e17] at hbb
            subst hbb
            go_simp
            exact hK.out _ _ (hJ.pure (gb_refl _ _) rfl rfl rfl)
          · intro l t w7 hJ hl hd bb hbb K hK
            simp only [puts, Act.put, List.setIfInBounds_toArray, List.set_cons_zero, List.set_cons_succ] at hbb
            subst hbb
            go_simp
            exact hK.out _ _ (hJ.pure (gb_refl _ _) rfl rfl rfl)
          · intro l t w7 hJ hl hd bb hbb K hK
            have z1 := convO (HOz.out.kept0 hJ.1.gb)
            rw [HZ.out] at z1
            have e19 := hJ.1.val 19 _ rfl (hd 19 (by kernel_rfl))
            simp only [puts, Act.put, List.setIfInBounds_toArray, List.set_cons_zero, List.set_cons_succ] at hbb
            rw [e19] at hbb
            subst hbb
            go_simp
            exact hK.out _ _ (hJ.pure (gb_refl _ _) rfl rfl rfl)
          · intro l t w7 hJ hl hd bb hbb K hK
            have e18 := hJ.1.val 18 _ rfl (hd 18 (by kernel_rfl))
            have e20 := hJ.1.val 20 _ rfl (hd 20 (by kernel_rfl))
            simp only [puts, Act.put, List.setIfInBounds_toArray, List.set_cons_zero, List.set_cons_succ] at hbb
            rw [e18] at hbb
            rw [e20] at hbb
            subst hbb
            go_simp
            exact hK.out _ _ (hJ.pure (gb_refl _ _) rfl rfl rfl)
          · intro l t w7 hJ hl hd bb hbb K hK
            have e21 := hJ.1.val 21 _ rfl (hd 21 (by kernel_rfl))
            simp only [puts, Act.put, List.setIfInBounds_toArray, List.set_cons_zero, List.set_cons_succ] at hbb
            rw [e21] at hbb
            subst hbb
            go_simp
            exact hK.out _ _ (hJ.pure (gb_refl _ _) rfl rfl rfl)
        intro l t w9' hJ hl
        have e22 := hJ.1.val 22 _ rfl (hl 22 (by decide))
        have HGe := hid (gb_trans HGz.out hJ.1.gb)
        clear hJ hl
        simp only [puts, Act.put, List.setIfInBounds_toArray, List.set_cons_zero, List.set_cons_succ]
        rw [e22]
        clear e22
        go_wp2_with fail
        go_ret
        exact ⟨rfl, HGe.out⟩
      · go_enter Tryz.func4, Tryz.ntmps4
        go_wp2_with fail
        refine (fits_y _ hn).mono ?_
        rintro e w1 ⟨rfl, hg⟩
        have hh1 := gb_trans (a := w) (by (repeat (first | exact gb_refl _ _ | assumption | refine gb_drew ?_ | refine gb_drewN ?_ _ | refine gb_alloc ?_ _ | refine gb_setCell ?_ (.inr (by simp <;> omega)) _))) hg
        have HG1 := hid hh1
        have hS : CellsAt w1 (w.heap.size + 1 + 1) [.int .i64 ks, .int .i64 X0, .int .i64 Y0, .int .i64 X1, .int .i64 Y1, .slice As n' cs] := CellsAt.kept0 (fun i v hv => by (rcases i with _ | _ | _ | _ | _ | _ | i <;> (first | (cases hv; go_simp; done) | (simp at hv; done)))) hg
        have HS1 := hid hS
        clear hS
        have zS := HS1.out.lt
        have hM : CellsAt w1 (w.heap.size + 1 + 1 + 1) [.int .i64 km, .int .i64 Xm0, .int .i64 Ym0, .int .i64 Xm1, .int .i64 Ym1, .slice Am n'' cm] := CellsAt.kept0 (fun i v hv => by (rcases i with _ | _ | _ | _ | _ | _ | i <;> (first | (cases hv; go_simp; done) | (simp at hv; done)))) hg
        have HM1 := hid hM
        clear hM
        have zM := HM1.out.lt
        clear hg hh1
        have s0' := HS1.out 0 _ rfl
        have s1' := HS1.out 1 _ rfl
        have s2' := HS1.out 2 _ rfl
        have s3' := HS1.out 3 _ rfl
        have s4' := HS1.out 4 _ rfl
        have s5' := HS1.out 5 _ rfl
        go_wp2_with fail
        refine (fits_y _ hn').mono ?_
        rintro e w2 ⟨rfl, hg⟩
        have hh2 := gb_trans (a := w1) (by (repeat (first | exact gb_refl _ _ | assumption | refine gb_drew ?_ | refine gb_drewN ?_ _ | refine gb_alloc ?_ _ | refine gb_setCell ?_ (.inr (by simp <;> omega)) _))) hg
        have HG2 := hid (gb_trans HG1.out hh2)
        clear zS zM
        have HS2 := hid (HS1.out.kept0 hh2)
        have zS := HS2.out.lt
        have HM2 := hid (HM1.out.kept0 hh2)
        have zM := HM2.out.lt
        clear s0' s1' s2' s3' s4' s5'
        clear hg hh2
        have m0' := HM2.out 0 _ rfl
        have m1' := HM2.out 1 _ rfl
        have m2' := HM2.out 2 _ rfl
        have m3' := HM2.out 3 _ rfl
        have m4' := HM2.out 4 _ rfl
        have m5' := HM2.out 5 _ rfl
        go_wp2_with fail
        refine (fits_n _ hn'').mono ?_
        rintro e w3 ⟨rfl, hg⟩
        have hh3 := gb_trans (a := w2) (by (repeat (first | exact gb_refl _ _ | assumption | refine gb_drew ?_ | refine gb_drewN ?_ _ | refine gb_alloc ?_ _ | refine gb_setCell ?_ (.inr (by simp <;> omega)) _))) hg
        have HG3 := hid (gb_trans HG2.out hh3)
        clear zS zM
        have HS3 := hid (HS2.out.kept0 hh3)
        have zS := HS3.out.lt
        have HM3 := hid (HM2.out.kept0 hh3)
        have zM := HM3.out.lt
        clear m0' m1' m2' m3' m4' m5'
        clear hg hh3
        go_wp2_with fail
        go_ret
        exact ⟨rfl, HG3.out⟩
    · go_enter Tryz.func4, Tryz.ntmps4
      go_wp2_with fail
      refine (fits_y _ hn).mono ?_
      rintro e w1 ⟨rfl, hg⟩
      have hh1 := gb_trans (a := w) (by (repeat (first | exact gb_refl _ _ | assumption | refine gb_drew ?_ | refine gb_drewN ?_ _ | refine gb_alloc ?_ _ | refine gb_setCell ?_ (.inr (by simp <;> omega)) _))) hg
      have HG1 := hid hh1
      have hS : CellsAt w1 (w.heap.size + 1 + 1) [.int .i64 ks, .int .i64 X0, .int .i64 Y0, .int .i64 X1, .int .i64 Y1, .slice As n' cs] := CellsAt.kept0 (fun i v hv => by (rcases i with _ | _ | _ | _ | _ | _ | i <;> (first | (cases hv; go_simp; done) | (simp at hv; done)))) hg
      have HS1 := hid hS
      clear hS
      have zS := HS1.out.lt
      clear hg hh1
      have s0' := HS1.out 0 _ rfl
      have s1' := HS1.out 1 _ rfl
      have s2' := HS1.out 2 _ rfl
      have s3' := HS1.out 3 _ rfl
      have s4' := HS1.out 4 _ rfl
      have s5' := HS1.out 5 _ rfl
      go_wp2_with fail
      refine (fits_n _ hn').mono ?_
      rintro e w2 ⟨rfl, hg⟩
      have hh2 := gb_trans (a := w1) (by (repeat (first | exact gb_refl _ _ | assumption | refine gb_drew ?_ | refine gb_drewN ?_ _ | refine gb_alloc ?_ _ | refine gb_setCell ?_ (.inr (by simp <;> omega)) _))) hg
      have HG2 := hid (gb_trans HG1.out hh2)
      clear zS
      have HS2 := hid (HS1.out.kept0 hh2)
      have zS := HS2.out.lt
      clear s0' s1' s2' s3' s4' s5'
      clear hg hh2
      go_wp2_with fail
      go_ret
      exact ⟨rfl, HG2.out⟩
  · go_enter Tryz.func4, Tryz.ntmps4
    go_wp2_with fail
    refine (fits_n _ hn).mono ?_
    rintro e w1 ⟨rfl, hg⟩
    have hh1 := gb_trans (a := w) (by (repeat (first | exact gb_refl _ _ | assumption | refine gb_drew ?_ | refine gb_drewN ?_ _ | refine gb_alloc ?_ _ | refine gb_setCell ?_ (.inr (by simp <;> omega)) _))) hg
    have HG1 := hid hh1
    clear hg hh1
    go_wp2_with fail
    go_ret
    exact ⟨rfl, HG1.out⟩
end Go.Proofs.YtgjpohmjkhgpfaaGreat
