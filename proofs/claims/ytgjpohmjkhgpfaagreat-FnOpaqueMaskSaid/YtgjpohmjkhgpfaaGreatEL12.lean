/- The law FnOpaqueMask: its walk. No condition. -/
import Derived.Test.YtgjpohmjkhgpfaaGreatELU
set_option linter.unusedSimpArgs false
set_option linter.unusedVariables false
namespace Go.Proofs.YtgjpohmjkhgpfaaGreat
open Go.RowKit

set_option maxRecDepth 100000 in
set_option maxHeartbeats 8000000 in
theorem opaquemask_walk {kd ks Xd0 Yd0 Xd1 Yd1 X0 Y0 X1 Y1 r0 r1 r2 r3 px py op : Int} {Ad As : Option Addr} {n n' cd cs : Nat} {p s : Nat → Int} (w : World) (hd : InI w Ad n cd p) (hs : InI w As n' cs s) :
    Calls Tryz.prog 12 #[vI kd Xd0 Yd0 Xd1 Yd1 Ad n cd, vR r0 r1 r2 r3, vI ks X0 Y0 X1 Y1 As n' cs, .int .i64 px, .int .i64 py, .int .i64 op] w fun e w' => e = .returned (.bool true) ∧ w.grownBy w' none := by
  have HD := hid hd
  have HS := hid hs
  clear hd hs
  by_cases hn : n ≤ 2147483647
  · by_cases hn' : n' ≤ 2147483647
    · go_enter Tryz.func12, Tryz.ntmps12
      go_wp2_with fail
      refine (fits_y _ hn).mono ?_
      rintro e w1 ⟨rfl, hg⟩
      have hh1 := gb_trans (a := w) (by (repeat (first | exact gb_refl _ _ | assumption | refine gb_drew ?_ | refine gb_drewN ?_ _ | refine gb_alloc ?_ _ | refine gb_setCell ?_ (.inr (by simp <;> omega)) _))) hg
      have HG1 := hid hh1
      have hA : CellsAt w1 w.heap.size [.int .i64 kd, .int .i64 Xd0, .int .i64 Yd0, .int .i64 Xd1, .int .i64 Yd1, .slice Ad n cd] := CellsAt.kept0 (fun i v hv => by (rcases i with _ | _ | _ | _ | _ | _ | i <;> (first | (cases hv; go_simp; done) | (simp at hv; done)))) hg
      have HA1 := hid hA
      clear hA
      have zA := HA1.out.lt
      have hR : CellsAt w1 (w.heap.size + 1) [.int .i64 r0, .int .i64 r1, .int .i64 r2, .int .i64 r3] := CellsAt.kept0 (fun i v hv => by (rcases i with _ | _ | _ | _ | i <;> (first | (cases hv; go_simp; done) | (simp at hv; done)))) hg
      have HR1 := hid hR
      clear hR
      have zR := HR1.out.lt
      have hS : CellsAt w1 (w.heap.size + 1 + 1) [.int .i64 ks, .int .i64 X0, .int .i64 Y0, .int .i64 X1, .int .i64 Y1, .slice As n' cs] := CellsAt.kept0 (fun i v hv => by (rcases i with _ | _ | _ | _ | _ | _ | i <;> (first | (cases hv; go_simp; done) | (simp at hv; done)))) hg
      have HS1 := hid hS
      clear hS
      have zS := HS1.out.lt
      clear hg hh1
      have s0' := HS1.out 0 _ rfl
      have s1' := HS1.out 1 _ rfl
      have s2' := HS1.out 2 _ rfl
      have s3' := HS1.out 3 _ rfl
      have s4' := HS1.out 4 _ rfl
      have s5' := HS1.out 5 _ rfl
      go_wp2_with fail
      refine (fits_y _ hn').mono ?_
      rintro e w2 ⟨rfl, hg⟩
      have hh2 := gb_trans (a := w1) (by (repeat (first | exact gb_refl _ _ | assumption | refine gb_drew ?_ | refine gb_drewN ?_ _ | refine gb_alloc ?_ _ | refine gb_setCell ?_ (.inr (by simp <;> omega)) _))) hg
      have HG2 := hid (gb_trans HG1.out hh2)
      clear zA zR zS
      have HA2 := hid (HA1.out.kept0 hh2)
      have zA := HA2.out.lt
      have HR2 := hid (HR1.out.kept0 hh2)
      have zR := HR2.out.lt
      have HS2 := hid (HS1.out.kept0 hh2)
      have zS := HS2.out.lt
      clear s0' s1' s2' s3' s4' s5'
      clear hg hh2
      have r0' := HR2.out 0 _ rfl
      have r1' := HR2.out 1 _ rfl
      have r2' := HR2.out 2 _ rfl
      have r3' := HR2.out 3 _ rfl
      go_wp2_with fail
      refine (lrect_c r0 r1 r2 r3 _).mono ?_
      rintro e w3 ⟨b, q0, q1, q2, q3, rfl, hb, hg⟩
      have hh3 := gb_trans (a := w2) (by (repeat (first | exact gb_refl _ _ | assumption | refine gb_drew ?_ | refine gb_drewN ?_ _ | refine gb_alloc ?_ _ | refine gb_setCell ?_ (.inr (by simp <;> omega)) _))) hg
      have HG3 := hid (gb_trans HG2.out hh3)
      clear zA zR zS
      have HA3 := hid (HA2.out.kept0 hh3)
      have zA := HA3.out.lt
      have HR3 := hid (HR2.out.kept0 hh3)
      have zR := HR3.out.lt
      have HS3 := hid (HS2.out.kept0 hh3)
      have zS := HS3.out.lt
      clear r0' r1' r2' r3'
      clear hg hh3
      cases b
      · go_wp2_with fail
        go_ret
        exact ⟨rfl, gb_trans HG3.out (by (repeat (first | exact gb_refl _ _ | assumption | refine gb_drew ?_ | refine gb_drewN ?_ _ | refine gb_alloc ?_ _ | refine gb_setCell ?_ (.inr (by simp <;> omega)) _)))⟩
      obtain ⟨hr, rfl, rfl, rfl, rfl⟩ := hb rfl
      have HNR := hid hr
      clear hr hb
      have a0' := HA3.out 0 _ rfl
      have a1' := HA3.out 1 _ rfl
      have a2' := HA3.out 2 _ rfl
      have a3' := HA3.out 3 _ rfl
      have a4' := HA3.out 4 _ rfl
      have a5' := HA3.out 5 _ rfl
      go_wp2_with fail
      refine (target_c _ (HD.out.1.kept0 (gb_trans HG3.out (by (repeat (first | exact gb_refl _ _ | assumption | refine gb_drew ?_ | refine gb_drewN ?_ _ | refine gb_alloc ?_ _ | refine gb_setCell ?_ (.inr (by simp <;> omega)) _))))) HD.out.2.1 hn HD.out.2.2.2.1 HD.out.2.2.2.2).mono ?_
      rintro e w4 ⟨b, rfl, hb, hg⟩
      have hh4 := gb_trans (a := w3) (by (repeat (first | exact gb_refl _ _ | assumption | refine gb_drew ?_ | refine gb_drewN ?_ _ | refine gb_alloc ?_ _ | refine gb_setCell ?_ (.inr (by simp <;> omega)) _))) hg
      have HG4 := hid (gb_trans HG3.out hh4)
      clear zA zR zS
      have HA4 := hid (HA3.out.kept0 hh4)
      have zA := HA4.out.lt
      have HR4 := hid (HR3.out.kept0 hh4)
      have zR := HR4.out.lt
      have HS4 := hid (HS3.out.kept0 hh4)
      have zS := HS4.out.lt
      clear a0' a1' a2' a3' a4' a5'
      have hT : CellsAt w4 w3.heap.size [.int .i64 q0, .int .i64 q1, .int .i64 q2, .int .i64 q3] := CellsAt.kept0 (fun i v hv => by (rcases i with _ | _ | _ | _ | i <;> (first | (cases hv; go_simp; done) | (simp at hv; done)))) hg
      have HT4 := hid hT
      clear hT
      have zT := HT4.out.lt
      clear hg hh4
      cases b
      · go_wp2_with fail
        go_ret
        exact ⟨rfl, gb_trans HG4.out (by (repeat (first | exact gb_refl _ _ | assumption | refine gb_drew ?_ | refine gb_drewN ?_ _ | refine gb_alloc ?_ _ | refine gb_setCell ?_ (.inr (by simp <;> omega)) _)))⟩
      obtain ⟨kk, rfl, hkk, hv⟩ := hb rfl
      have HV := hid hv
      have HK := hid hkk
      clear hb hv hkk
      have s0' := HS4.out 0 _ rfl
      have s1' := HS4.out 1 _ rfl
      have s2' := HS4.out 2 _ rfl
      have s3' := HS4.out 3 _ rfl
      have s4' := HS4.out 4 _ rfl
      have s5' := HS4.out 5 _ rfl
      go_wp2_with fail
      refine (valid_c _ (HS.out.1.kept0 (gb_trans HG4.out (by (repeat (first | exact gb_refl _ _ | assumption | refine gb_drew ?_ | refine gb_drewN ?_ _ | refine gb_alloc ?_ _ | refine gb_setCell ?_ (.inr (by simp <;> omega)) _))))) HS.out.2.1 hn' HS.out.2.2.2.1 HS.out.2.2.2.2).mono ?_
      rintro e w5 ⟨b, rfl, hb, hg⟩
      have hh5 := gb_trans (a := w4) (by (repeat (first | exact gb_refl _ _ | assumption | refine gb_drew ?_ | refine gb_drewN ?_ _ | refine gb_alloc ?_ _ | refine gb_setCell ?_ (.inr (by simp <;> omega)) _))) hg
      have HG5 := hid (gb_trans HG4.out hh5)
      clear zA zR zS zT
      have HA5 := hid (HA4.out.kept0 hh5)
      have zA := HA5.out.lt
      have HR5 := hid (HR4.out.kept0 hh5)
      have zR := HR5.out.lt
      have HS5 := hid (HS4.out.kept0 hh5)
      have zS := HS5.out.lt
      have HT5 := hid (HT4.out.kept0 hh5)
      have zT := HT5.out.lt
      clear s0' s1' s2' s3' s4' s5'
      clear hg hh5
      cases b
      · go_wp2_with fail
        go_ret
        exact ⟨rfl, gb_trans HG5.out (by (repeat (first | exact gb_refl _ _ | assumption | refine gb_drew ?_ | refine gb_drewN ?_ _ | refine gb_alloc ?_ _ | refine gb_setCell ?_ (.inr (by simp <;> omega)) _)))⟩
      obtain ⟨k2, rfl, hv⟩ := hb rfl
      have HVS := hid hv
      clear hb hv
      go_wp2_with fail
      refine (fine_c (n := 2) (l := fun i => if i = 0 then px else py) _ (fun i hi => ?_) (by omega)).mono ?_
      · have hi' : i = 0 ∨ i = 1 := by omega
        rcases hi' with rfl | rfl <;> go_simp
      rintro e w6 ⟨⟨b, rfl, hb⟩, rfl⟩
      cases b
      · go_wp2_with fail
        go_ret
        exact ⟨rfl, gb_trans HG5.out (by (repeat (first | exact gb_refl _ _ | assumption | refine gb_drew ?_ | refine gb_drewN ?_ _ | refine gb_alloc ?_ _ | refine gb_setCell ?_ (.inr (by simp <;> omega)) _)))⟩
      have hx : nr px := hb rfl 0 (by omega)
      have hy : nr py := hb rfl 1 (by omega)
      have HXY := hid (And.intro hx hy)
      clear hb hx hy
      obtain ⟨o, ho, hand⟩ := and1 op
      obtain ⟨dh, dw, GD, gx, gy, gm, gw, gh, v1, v2, v3, v4⟩ := vk_geo (by have := HK.out; omega) HV.out
      have HGD := hid (And.intro GD (And.intro gx (And.intro gy (And.intro gm (And.intro gw (And.intro gh (And.intro v1 (And.intro v2 (And.intro v3 v4)))))))))
      obtain ⟨hk6, hpm, sh, sw, sx0, sy0, sx1, sy1, GS, DS, AS, t1, t2, hX, hB⟩ := vk_all HVS.out HS.out.2.1 HS.out.2.2.1 hn'
      have HGS := hid (And.intro GS (And.intro DS (And.intro AS (And.intro hpm hX))))
      clear GD gx gy gm gw gh v1 v2 v3 v4 GS DS AS hpm hX t1 t2 hB
      go_upto_region 8 with fail
      obtain ⟨w6, hw6, hg, hWc, hWr⟩ := white_c w5 px py
      rw [hw6]
      clear hw6
      have HG6 := hid (gb_trans HG5.out hg)
      have HW6 := hid hWc
      have HWr6 := hid hWr
      have HA6 := hid (HA5.out.kept0 hg)
      have HR6 := hid (HR5.out.kept0 hg)
      have HS6 := hid (HS5.out.kept0 hg)
      clear hg hWc hWr zA zR zS zT
      obtain ⟨q, hq⟩ : ∃ q, cutN n (resB kk dw (In0 q0 q1 q2 q3 px py Xd0 Yd0 sx0 sy0 sh sw) (fun r c => px0 kk k2 o (toP dw (sz kk) p r c) (srcAt k2 sw s q0 q1 px py Xd0 Yd0 sx0 sy0 r c)) p) = q := ⟨_, rfl⟩
      have HQ := hid hq
      have hqb : By q := by
        rw [← hq]
        exact q0_by (by have := HK.out; omega) HGD.out.2.2.2.1 HD.out.2.1 HS.out.2.1 HGS.out.2.2.2.1
      have HQB := hid hqb
      clear hq hqb
      refine wp_region_inv (JP w6 [some (vI kk Xd0 Yd0 Xd1 Yd1 Ad n cd), some (vR q0 q1 q2 q3), some (vI k2 X0 Y0 X1 Y1 As n' cs), some (.int .i64 px), some (.int .i64 py), some (.int .i64 o), none, some (vI kk Xd0 Yd0 Xd1 Yd1 Ad n cd), some (vR q0 q1 q2 q3), some (vI k2 X0 Y0 X1 Y1 As n' cs), some (.int .i64 px), some (.int .i64 py), some (vI ((6 : Nat) : Int) 0 0 0 0 (some ⟨w5.heap.size + 1, 0, none⟩) 8 8), some (.int .i64 o), none, none, none] [] [6, 14, 15, 16] w6.heap.size n q) (fun _ => undef) (by kernel_rfl) (by kernel_rfl) [(0, 58), (1, 59), (2, 60), (3, 61), (4, 62), (5, 63), (6, 64), (7, 65), (8, 66), (9, 67), (10, 68), (11, 69), (12, 70), (13, 71), (14, 72), (15, 16), (16, 17)] (by kernel_rfl) (JP.start (by (repeat (first | exact gb_refl _ _ | assumption | refine gb_drew ?_ | refine gb_drewN ?_ _ | refine gb_alloc ?_ _ | refine gb_setCell ?_ (.inr (by simp <;> omega)) _)))) ?_ ?_
      · refine Steps'.cons [] (by kernel_rfl) ?_ (Steps'.cons [] (by kernel_rfl) ?_ (Steps'.cons [] (by kernel_rfl) ?_ (Steps'.cons [] (by kernel_rfl) ?_ (Steps'.cons [] (by kernel_rfl) ?_ (Steps'.cons [] (by kernel_rfl) ?_ (Steps'.cons [(0, 58), (1, 59), (2, 60), (3, 61), (4, 62), (5, 63)] (by kernel_rfl) ?_ (Steps'.cons [] (by kernel_rfl) ?_ (Steps'.cons [] (by kernel_rfl) ?_ (Steps'.cons [] (by kernel_rfl) ?_ (Steps'.cons [] (by kernel_rfl) ?_ (Steps'.cons [] (by kernel_rfl) ?_ (Steps'.cons [] (by kernel_rfl) ?_ (Steps'.cons [] (by kernel_rfl) ?_ (Steps'.cons [(7, 65), (8, 66), (9, 67), (10, 68), (11, 69), (12, 70), (13, 71)] (by kernel_rfl) ?_ (Steps'.cons [(6, 64)] (by kernel_rfl) ?_ (Steps'.cons [(14, 72)] (by kernel_rfl) ?_ (Steps'.nil)))))))))))))))))
        · intro l t w7 hJ hl hd bb hbb K hK
          have f0 := (HA6.out.kept0 hJ.1.gb) 0 _ rfl
          have f1 := (HA6.out.kept0 hJ.1.gb) 1 _ rfl
          have f2 := (HA6.out.kept0 hJ.1.gb) 2 _ rfl
          have f3 := (HA6.out.kept0 hJ.1.gb) 3 _ rfl
          have f4 := (HA6.out.kept0 hJ.1.gb) 4 _ rfl
          have f5 := (HA6.out.kept0 hJ.1.gb) 5 _ rfl
          simp only [puts, Act.put, List.setIfInBounds_toArray, List.set_cons_zero, List.set_cons_succ] at hbb
          subst hbb
          go_simp
          exact hK.out _ _ (hJ.pure (gb_refl _ _) rfl rfl rfl)
        · intro l t w7 hJ hl hd bb hbb K hK
          have f0 := (HR6.out.kept0 hJ.1.gb) 0 _ rfl
          have f1 := (HR6.out.kept0 hJ.1.gb) 1 _ rfl
          have f2 := (HR6.out.kept0 hJ.1.gb) 2 _ rfl
          have f3 := (HR6.out.kept0 hJ.1.gb) 3 _ rfl
          simp only [puts, Act.put, List.setIfInBounds_toArray, List.set_cons_zero, List.set_cons_succ] at hbb
          subst hbb
          go_simp
          exact hK.out _ _ (hJ.pure (gb_refl _ _) rfl rfl rfl)
        · intro l t w7 hJ hl hd bb hbb K hK
          have f0 := (HS6.out.kept0 hJ.1.gb) 0 _ rfl
          have f1 := (HS6.out.kept0 hJ.1.gb) 1 _ rfl
          have f2 := (HS6.out.kept0 hJ.1.gb) 2 _ rfl
          have f3 := (HS6.out.kept0 hJ.1.gb) 3 _ rfl
          have f4 := (HS6.out.kept0 hJ.1.gb) 4 _ rfl
          have f5 := (HS6.out.kept0 hJ.1.gb) 5 _ rfl
          simp only [puts, Act.put, List.setIfInBounds_toArray, List.set_cons_zero, List.set_cons_succ] at hbb
          subst hbb
          go_simp
          exact hK.out _ _ (hJ.pure (gb_refl _ _) rfl rfl rfl)
        · intro l t w7 hJ hl hd bb hbb K hK
          simp only [puts, Act.put, List.setIfInBounds_toArray, List.set_cons_zero, List.set_cons_succ] at hbb
          subst hbb
          go_simp
          exact hK.out _ _ (hJ.pure (gb_refl _ _) rfl rfl rfl)
        · intro l t w7 hJ hl hd bb hbb K hK
          simp only [puts, Act.put, List.setIfInBounds_toArray, List.set_cons_zero, List.set_cons_succ] at hbb
          subst hbb
          go_simp
          exact hK.out _ _ (hJ.pure (gb_refl _ _) rfl rfl rfl)
        · intro l t w7 hJ hl hd bb hbb K hK
          simp only [puts, Act.put, List.setIfInBounds_toArray, List.set_cons_zero, List.set_cons_succ] at hbb
          subst hbb
          go_simp
          exact hK.out _ _ (hJ.pure (gb_refl _ _) rfl rfl rfl)
        · intro l t w7 hJ hl hd bb hbb K hK
          have e0 := hJ.1.val 0 _ rfl (hd 0 (by kernel_rfl))
          have e1 := hJ.1.val 1 _ rfl (hd 1 (by kernel_rfl))
          have e2 := hJ.1.val 2 _ rfl (hd 2 (by kernel_rfl))
          have e3 := hJ.1.val 3 _ rfl (hd 3 (by kernel_rfl))
          have e4 := hJ.1.val 4 _ rfl (hd 4 (by kernel_rfl))
          have e5 := hJ.1.val 5 _ rfl (hd 5 (by kernel_rfl))
          simp only [puts, Act.put, List.setIfInBounds_toArray, List.set_cons_zero, List.set_cons_succ] at hbb
          rw [e0] at hbb
          rw [e1] at hbb
          rw [e2] at hbb
          rw [e3] at hbb
          rw [e4] at hbb
          rw [e5] at hbb
          subst hbb
          go_simp
          refine (idraw_of (q := resB kk dw (In0 q0 q1 q2 q3 px py Xd0 Yd0 sx0 sy0 sh sw) (fun r c => px0 kk k2 o (toP dw (sz kk) p r c) (srcAt k2 sw s q0 q1 px py Xd0 Yd0 sx0 sy0 r c)) p) (by have := HK.out; omega) (HD.out.1.kept0 (gb_trans HG6.out hJ.1.gb)) (HS.out.1.kept0 (gb_trans HG6.out hJ.1.gb)) (vk_dat (by have := HK.out; omega) HV.out HD.out.2.1 hn) HGS.out.2.1
            (fun w' B B' c c' b b' A A' td ts h1 h2 h3 => mdm0_all ho (by have := HK.out; omega) hk6 h1 h2 HGD.out.1 HGS.out.1 HD.out.2.1 HS.out.2.1 HGS.out.2.2.2.1 h3 (by have h1 := HNR.out; unfold nr at h1; unfold sm; omega) (by have h1 := HNR.out; unfold nr at h1; unfold sm; omega) (by have h1 := HNR.out; have h2 := HXY.out; unfold nr at h1 h2; unfold sm; omega) (by have h1 := HNR.out; have h2 := HXY.out; unfold nr at h1 h2; unfold sm; omega) (by have h1 := HNR.out; have h2 := HXY.out; unfold nr at h1 h2; unfold sm; omega) (by have h1 := HNR.out; have h2 := HXY.out; unfold nr at h1 h2; unfold sm; omega))).mono ?_
          rintro e w8 ⟨A8, c8, rfl, ho8, hg⟩
          exact hK.out _ _ (hJ.own hg rfl rfl ((ho8.low hJ.1.gb.size).congr (fun i hi => by rw [← HQ.out]; exact (cutN_lt hi).symm)))
        · intro l t w7 hJ hl hd bb hbb K hK
          have f0 := (HA6.out.kept0 hJ.1.gb) 0 _ rfl
          have f1 := (HA6.out.kept0 hJ.1.gb) 1 _ rfl
          have f2 := (HA6.out.kept0 hJ.1.gb) 2 _ rfl
          have f3 := (HA6.out.kept0 hJ.1.gb) 3 _ rfl
          have f4 := (HA6.out.kept0 hJ.1.gb) 4 _ rfl
          have f5 := (HA6.out.kept0 hJ.1.gb) 5 _ rfl
          simp only [puts, Act.put, List.setIfInBounds_toArray, List.set_cons_zero, List.set_cons_succ] at hbb
          subst hbb
          go_simp
          exact hK.out _ _ (hJ.pure (gb_refl _ _) rfl rfl rfl)
        · intro l t w7 hJ hl hd bb hbb K hK
          have f0 := (HR6.out.kept0 hJ.1.gb) 0 _ rfl
          have f1 := (HR6.out.kept0 hJ.1.gb) 1 _ rfl
          have f2 := (HR6.out.kept0 hJ.1.gb) 2 _ rfl
          have f3 := (HR6.out.kept0 hJ.1.gb) 3 _ rfl
          simp only [puts, Act.put, List.setIfInBounds_toArray, List.set_cons_zero, List.set_cons_succ] at hbb
          subst hbb
          go_simp
          exact hK.out _ _ (hJ.pure (gb_refl _ _) rfl rfl rfl)
        · intro l t w7 hJ hl hd bb hbb K hK
          have f0 := (HS6.out.kept0 hJ.1.gb) 0 _ rfl
          have f1 := (HS6.out.kept0 hJ.1.gb) 1 _ rfl
          have f2 := (HS6.out.kept0 hJ.1.gb) 2 _ rfl
          have f3 := (HS6.out.kept0 hJ.1.gb) 3 _ rfl
          have f4 := (HS6.out.kept0 hJ.1.gb) 4 _ rfl
          have f5 := (HS6.out.kept0 hJ.1.gb) 5 _ rfl
          simp only [puts, Act.put, List.setIfInBounds_toArray, List.set_cons_zero, List.set_cons_succ] at hbb
          subst hbb
          go_simp
          exact hK.out _ _ (hJ.pure (gb_refl _ _) rfl rfl rfl)
        · intro l t w7 hJ hl hd bb hbb K hK
          simp only [puts, Act.put, List.setIfInBounds_toArray, List.set_cons_zero, List.set_cons_succ] at hbb
          subst hbb
          go_simp
          exact hK.out _ _ (hJ.pure (gb_refl _ _) rfl rfl rfl)
        · intro l t w7 hJ hl hd bb hbb K hK
          simp only [puts, Act.put, List.setIfInBounds_toArray, List.set_cons_zero, List.set_cons_succ] at hbb
          subst hbb
          go_simp
          exact hK.out _ _ (hJ.pure (gb_refl _ _) rfl rfl rfl)
        · intro l t w7 hJ hl hd bb hbb K hK
          have f0 := (HW6.out.kept0 hJ.1.gb) 0 _ rfl
          have f1 := (HW6.out.kept0 hJ.1.gb) 1 _ rfl
          have f2 := (HW6.out.kept0 hJ.1.gb) 2 _ rfl
          have f3 := (HW6.out.kept0 hJ.1.gb) 3 _ rfl
          have f4 := (HW6.out.kept0 hJ.1.gb) 4 _ rfl
          have f5 := (HW6.out.kept0 hJ.1.gb) 5 _ rfl
          simp only [puts, Act.put, List.setIfInBounds_toArray, List.set_cons_zero, List.set_cons_succ] at hbb
          subst hbb
          go_simp
          exact hK.out _ _ (hJ.pure (gb_refl _ _) rfl rfl rfl)
        · intro l t w7 hJ hl hd bb hbb K hK
          simp only [puts, Act.put, List.setIfInBounds_toArray, List.set_cons_zero, List.set_cons_succ] at hbb
          subst hbb
          go_simp
          exact hK.out _ _ (hJ.pure (gb_refl _ _) rfl rfl rfl)
        · intro l t w7 hJ hl hd bb hbb K hK
          have e7 := hJ.1.val 7 _ rfl (hd 7 (by kernel_rfl))
          have e8 := hJ.1.val 8 _ rfl (hd 8 (by kernel_rfl))
          have e9 := hJ.1.val 9 _ rfl (hd 9 (by kernel_rfl))
          have e10 := hJ.1.val 10 _ rfl (hd 10 (by kernel_rfl))
          have e11 := hJ.1.val 11 _ rfl (hd 11 (by kernel_rfl))
          have e12 := hJ.1.val 12 _ rfl (hd 12 (by kernel_rfl))
          have e13 := hJ.1.val 13 _ rfl (hd 13 (by kernel_rfl))
          simp only [puts, Act.put, List.setIfInBounds_toArray, List.set_cons_zero, List.set_cons_succ] at hbb
          rw [e7] at hbb
          rw [e8] at hbb
          rw [e9] at hbb
          rw [e10] at hbb
          rw [e11] at hbb
          rw [e12] at hbb
          rw [e13] at hbb
          subst hbb
          go_simp
          refine (idrawmask_of (km := 6) (m := fun _ => 255) (q := resB kk dw (In1 q0 q1 q2 q3 px py 0 0 Xd0 Yd0 sx0 sy0 (-1000000000) (-1000000000) sh sw 2000000000 2000000000) (fun r c => pxM kk k2 6 o (toP dw (sz kk) p r c) (srcAt k2 sw s q0 q1 px py Xd0 Yd0 sx0 sy0 r c) (srcAt 6 2000000000 (fun _ => 255) q0 q1 0 0 Xd0 Yd0 (-1000000000) (-1000000000) r c)) p) (by have := HK.out; omega) (HD.out.1.kept0 (gb_trans HG6.out hJ.1.gb)) (HS.out.1.kept0 (gb_trans HG6.out hJ.1.gb)) (HWr6.out.kept0 hJ.1.gb) (vk_dat (by have := HK.out; omega) HV.out HD.out.2.1 hn) HGS.out.2.1 (⟨by255, by omega, by omega, fun _ => rfl, .inl rfl, .inl rfl, rfl, rfl, rfl, rfl⟩ : Dat 6 0 0 0 0 (-1000000000) (-1000000000) 1000000000 1000000000 8 (fun _ => 255))
            (fun w' B B' B'' c c' c'' b b' b'' A A' A'' td ts tm h1 h2 h3 h4 h5 => mdm1_most ho (by have := HK.out; omega) (by omega) h1 h2 h3 HGD.out.1 HGS.out.1 (.inl ⟨rfl, rfl, rfl, rfl, rfl, rfl, rfl, rfl⟩) HD.out.2.1 HS.out.2.1 by255 HGS.out.2.2.2.1 h4 h5 (by have h1 := HNR.out; unfold nr at h1; unfold sm; omega) (by have h1 := HNR.out; unfold nr at h1; unfold sm; omega) (by have h1 := HNR.out; have h2 := HXY.out; unfold nr at h1 h2; unfold sm; omega) (by have h1 := HNR.out; have h2 := HXY.out; unfold nr at h1 h2; unfold sm; omega) (by have h1 := HNR.out; have h2 := HXY.out; unfold nr at h1 h2; unfold sm; omega) (by have h1 := HNR.out; have h2 := HXY.out; unfold nr at h1 h2; unfold sm; omega) (by unfold sm; omega) (by unfold sm; omega) (by have h1 := HNR.out; unfold nr at h1; unfold sm; omega) (by have h1 := HNR.out; unfold nr at h1; unfold sm; omega) (by have h1 := HNR.out; unfold nr at h1; unfold sm; omega) (by have h1 := HNR.out; unfold nr at h1; unfold sm; omega))).mono ?_
          rintro e w8 ⟨A8, c8, rfl, ho8, hg⟩
          exact hK.out _ _ (hJ.own hg rfl rfl ((ho8.low hJ.1.gb.size).congr (fun i hi => by
            rw [← HQ.out, cutN_lt hi]
            have h1 := HNR.out
            have h2 := HGD.out
            unfold nr at h1
            have h3 := h2.2.2.2.2.2.2
            exact opq_eq (fun _ => rfl) (by omega) (by omega) h2.2.2.2.2.1 h2.2.2.2.2.2.1 (by rw [← h2.2.2.2.1]; exact hi))))
        · intro l t w7 hJ hl hd bb hbb K hK
          obtain ⟨A8, c8, e6, ho8⟩ := hJ.2 6 (by simp) (hd 6 (by kernel_rfl))
          simp only [puts, Act.put, List.setIfInBounds_toArray, List.set_cons_zero, List.set_cons_succ] at hbb
          rw [e6] at hbb
          subst hbb
          go_simp
          exact hK.out _ _ (hJ.own (gb_refl _ _) rfl rfl ho8)
        · intro l t w7 hJ hl hd bb hbb K hK
          obtain ⟨A8, c8, e14, ho8⟩ := hJ.2 14 (by simp) (hd 14 (by kernel_rfl))
          simp only [puts, Act.put, List.setIfInBounds_toArray, List.set_cons_zero, List.set_cons_succ] at hbb
          rw [e14] at hbb
          subst hbb
          go_simp
          exact hK.out _ _ (hJ.own (gb_refl _ _) rfl rfl ho8)
      intro l t w9 hJ hl
      obtain ⟨A1, c1, e15, ho1⟩ := hJ.2 15 (by simp) (hl 15 (by decide))
      obtain ⟨A2, c2, e16, ho2⟩ := hJ.2 16 (by simp) (hl 16 (by decide))
      have HG9 := hid (gb_trans HG6.out hJ.1.gb)
      have a0' := (HA6.out.kept0 hJ.1.gb) 0 _ rfl
      have a5' := (HA6.out.kept0 hJ.1.gb) 5 _ rfl
      have HO1 := hid ho1.rd
      have HO2 := hid ho2.rd
      obtain ⟨cc1, cc2⟩ := ho1.le
      obtain ⟨dd1, dd2⟩ := ho2.le
      clear hJ hl ho1 ho2
      simp only [puts, Act.put, List.setIfInBounds_toArray, List.set_cons_zero, List.set_cons_succ]
      rw [e15, e16]
      clear e15 e16 HA1 HA2 HA3 HA4 HA5 HR1 HR2 HR3 HR4 HR5 HS1 HS2 HS3 HS4 HS5
      obtain ⟨k4, hk4⟩ : ∃ k4 : Bool, ((kk : Int) == 4) = k4 := ⟨_, rfl⟩
      cases k4
      · go_wp2_with fail
        go_loopw [131] (fun y wr => ∃ j : Nat, j ≤ n ∧ y = .int .i64 (j : Int) ∧ w9.grownBy wr none) (fun y _ => n - (intOf y).toNat)
        case atStart => exact ⟨0, Nat.zero_le _, rfl, gb_refl _ _⟩
        case round =>
          obtain ⟨j, hj, rfl, hg⟩ := hrel
          have HGr := hid hg
          by_cases hlt : j < n
          · obtain ⟨a, rfl, hb1, hca⟩ := HO1.out (by omega)
            obtain ⟨b, rfl, hb2, hcb⟩ := HO2.out (by omega)
            have i0 : wr.cell? (a.add j) = some (.int .u8 (q j)) := (gb_cell0 hg (by rw [add_block]; exact hb1)).trans (hca _ hlt)
            have i1 : wr.cell? (b.add j) = some (.int .u8 (q j)) := (gb_cell0 hg (by rw [add_block]; exact hb2)).trans (hcb _ hlt)
            have B := HQB.out j
            obtain ⟨u, hu⟩ : ∃ u, q j = u := ⟨_, rfl⟩
            rw [hu] at i0 i1 B
            have e0 : u - u = 0 := by omega
            clear hca hcb hb1 hb2 hg hu
            go_wp2_with fail
            go_quiet (fail)
            go_wp2_with fail
            exact ⟨⟨j + 1, by omega, by first | rfl | go_num, gb_drewN HGr.out _⟩, by simp [intOf]; omega⟩
          · go_wp2_with fail
            go_ret
            exact ⟨rfl, gb_trans HG9.out HGr.out⟩
      · go_wp2_with fail
        go_loopw [18] (fun y wr => ∃ m : Nat, m ≤ n + 1 ∧ y = .int .i64 (m : Int) ∧ w9.grownBy wr none) (fun y _ => n + 2 - (intOf y).toNat)
        case atStart => exact ⟨0, by omega, rfl, gb_refl _ _⟩
        case round =>
          obtain ⟨m, hm, rfl, hg⟩ := hrel
          have HGr := hid hg
          obtain ⟨m1, hm1⟩ : ∃ m1 : Nat, m + 1 = m1 := ⟨_, rfl⟩
          have e1 : (m : Int) + 1 = (m1 : Int) := by omega
          by_cases hlt : m1 < n
          · obtain ⟨a, rfl, hb1, hca⟩ := HO1.out (by omega)
            obtain ⟨b, rfl, hb2, hcb⟩ := HO2.out (by omega)
            have hlt2 : m < n := by omega
            have i0 : wr.cell? (a.add m) = some (.int .u8 (q m)) := (gb_cell0 hg (by rw [add_block]; exact hb1)).trans (hca _ (by omega))
            have i1 : wr.cell? (b.add m) = some (.int .u8 (q m)) := (gb_cell0 hg (by rw [add_block]; exact hb2)).trans (hcb _ (by omega))
            have i2 : wr.cell? (a.add m1) = some (.int .u8 (q m1)) := (gb_cell0 hg (by rw [add_block]; exact hb1)).trans (hca _ hlt)
            have i3 : wr.cell? (b.add m1) = some (.int .u8 (q m1)) := (gb_cell0 hg (by rw [add_block]; exact hb2)).trans (hcb _ hlt)
            have B := HQB.out m
            have B' := HQB.out m1
            obtain ⟨u, hu⟩ : ∃ u, q m = u := ⟨_, rfl⟩
            obtain ⟨v, hv⟩ : ∃ v, q m1 = v := ⟨_, rfl⟩
            rw [hu] at i0 i1 B
            rw [hv] at i2 i3 B'
            have e0 : u * 256 + v - u * 256 - v = 0 := by omega
            have Hm := hid hm
            have Hm1 := hid hm1
            clear hca hcb hb1 hb2 hg hu hv hm hm1
            go_wp2_with fail
            go_quiet (fail)
            go_wp2_with fail
            exact ⟨⟨m + 2, by have := Hm1.out; omega, by first | rfl | go_num, gb_drewN HGr.out _⟩, by simp [intOf]; have := Hm1.out; omega⟩
          · go_wp2_with fail
            go_ret
            exact ⟨rfl, gb_trans HG9.out HGr.out⟩
    · go_enter Tryz.func12, Tryz.ntmps12
      go_wp2_with fail
      refine (fits_y _ hn).mono ?_
      rintro e w1 ⟨rfl, hg⟩
      have hh1 := gb_trans (a := w) (by (repeat (first | exact gb_refl _ _ | assumption | refine gb_drew ?_ | refine gb_drewN ?_ _ | refine gb_alloc ?_ _ | refine gb_setCell ?_ (.inr (by simp <;> omega)) _))) hg
      have HG1 := hid hh1
      have hS : CellsAt w1 (w.heap.size + 1 + 1) [.int .i64 ks, .int .i64 X0, .int .i64 Y0, .int .i64 X1, .int .i64 Y1, .slice As n' cs] := CellsAt.kept0 (fun i v hv => by (rcases i with _ | _ | _ | _ | _ | _ | i <;> (first | (cases hv; go_simp; done) | (simp at hv; done)))) hg
      have HS1 := hid hS
      clear hS
      have zS := HS1.out.lt
      clear hg hh1
      have s0' := HS1.out 0 _ rfl
      have s1' := HS1.out 1 _ rfl
      have s2' := HS1.out 2 _ rfl
      have s3' := HS1.out 3 _ rfl
      have s4' := HS1.out 4 _ rfl
      have s5' := HS1.out 5 _ rfl
      go_wp2_with fail
      refine (fits_n _ hn').mono ?_
      rintro e w2 ⟨rfl, hg⟩
      have hh2 := gb_trans (a := w1) (by (repeat (first | exact gb_refl _ _ | assumption | refine gb_drew ?_ | refine gb_drewN ?_ _ | refine gb_alloc ?_ _ | refine gb_setCell ?_ (.inr (by simp <;> omega)) _))) hg
      have HG2 := hid (gb_trans HG1.out hh2)
      clear zS
      have HS2 := hid (HS1.out.kept0 hh2)
      have zS := HS2.out.lt
      clear s0' s1' s2' s3' s4' s5'
      clear hg hh2
      go_wp2_with fail
      go_ret
      exact ⟨rfl, HG2.out⟩
  · go_enter Tryz.func12, Tryz.ntmps12
    go_wp2_with fail
    refine (fits_n _ hn).mono ?_
    rintro e w1 ⟨rfl, hg⟩
    have hh1 := gb_trans (a := w) (by (repeat (first | exact gb_refl _ _ | assumption | refine gb_drew ?_ | refine gb_drewN ?_ _ | refine gb_alloc ?_ _ | refine gb_setCell ?_ (.inr (by simp <;> omega)) _))) hg
    have HG1 := hid hh1
    clear hg hh1
    go_wp2_with fail
    go_ret
    exact ⟨rfl, HG1.out⟩
end Go.Proofs.YtgjpohmjkhgpfaaGreat
