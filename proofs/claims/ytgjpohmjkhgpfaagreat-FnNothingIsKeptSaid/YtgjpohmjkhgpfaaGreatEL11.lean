/- The law FnNothingIsKept: its walk. No condition. -/
import Derived.Test.YtgjpohmjkhgpfaaGreatELX
set_option linter.unusedSimpArgs false
set_option linter.unusedVariables false
namespace Go.Proofs.YtgjpohmjkhgpfaaGreat
open Go.RowKit

set_option maxRecDepth 100000 in
set_option maxHeartbeats 8000000 in
theorem nothing_walk {kd ks Xd0 Yd0 Xd1 Yd1 X0 Y0 X1 Y1 r0 r1 r2 r3 px py op : Int} {Ad As : Option Addr} {n n' cd cs : Nat} {p s : Nat → Int} {bm : Bool} (w : World) (hd : InI w Ad n cd p) (hs : InI w As n' cs s) :
    Calls Tryz.prog 11 #[vI kd Xd0 Yd0 Xd1 Yd1 Ad n cd, vR r0 r1 r2 r3, vI ks X0 Y0 X1 Y1 As n' cs, .int .i64 px, .int .i64 py, .bool bm, .int .i64 op] w fun e w' => e = .returned (.bool true) ∧ w.grownBy w' none := by
  have HD := hid hd
  have HS := hid hs
  clear hd hs
  by_cases hn : n ≤ 2147483647
  · by_cases hn' : n' ≤ 2147483647
    · go_enter Tryz.func11, Tryz.ntmps11
      go_wp2_with fail
      refine (fits_y _ hn).mono ?_
      rintro e w1 ⟨rfl, hg⟩
      have hh1 := gb_trans (a := w) (by (repeat (first | exact gb_refl _ _ | assumption | refine gb_drew ?_ | refine gb_drewN ?_ _ | refine gb_alloc ?_ _ | refine gb_setCell ?_ (.inr (by simp <;> omega)) _))) hg
      have HG1 := hid hh1
      have hA : CellsAt w1 w.heap.size [.int .i64 kd, .int .i64 Xd0, .int .i64 Yd0, .int .i64 Xd1, .int .i64 Yd1, .slice Ad n cd] := CellsAt.kept0 (fun i v hv => by (rcases i with _ | _ | _ | _ | _ | _ | i <;> (first | (cases hv; go_simp; done) | (simp at hv; done)))) hg
      have HA1 := hid hA
      clear hA
      have zA := HA1.out.lt
      have hR : CellsAt w1 (w.heap.size + 1) [.int .i64 r0, .int .i64 r1, .int .i64 r2, .int .i64 r3] := CellsAt.kept0 (fun i v hv => by (rcases i with _ | _ | _ | _ | i <;> (first | (cases hv; go_simp; done) | (simp at hv; done)))) hg
      have HR1 := hid hR
      clear hR
      have zR := HR1.out.lt
      have hS : CellsAt w1 (w.heap.size + 1 + 1) [.int .i64 ks, .int .i64 X0, .int .i64 Y0, .int .i64 X1, .int .i64 Y1, .slice As n' cs] := CellsAt.kept0 (fun i v hv => by (rcases i with _ | _ | _ | _ | _ | _ | i <;> (first | (cases hv; go_simp; done) | (simp at hv; done)))) hg
      have HS1 := hid hS
      clear hS
      have zS := HS1.out.lt
      have HF1 : Hid (w1.frozen? ⟨w.heap.size + 1 + 1, 5, none⟩ = false) := hid ((gb_free0 hg (p := ⟨w.heap.size + 1 + 1, 5, none⟩) (by simp)).trans (by go_simp))
      clear hg hh1
      have s0' := HS1.out 0 _ rfl
      have s1' := HS1.out 1 _ rfl
      have s2' := HS1.out 2 _ rfl
      have s3' := HS1.out 3 _ rfl
      have s4' := HS1.out 4 _ rfl
      have s5' := HS1.out 5 _ rfl
      go_wp2_with fail
      refine (fits_y _ hn').mono ?_
      rintro e w2 ⟨rfl, hg⟩
      have hh2 := gb_trans (a := w1) (by (repeat (first | exact gb_refl _ _ | assumption | refine gb_drew ?_ | refine gb_drewN ?_ _ | refine gb_alloc ?_ _ | refine gb_setCell ?_ (.inr (by simp <;> omega)) _))) hg
      have HG2 := hid (gb_trans HG1.out hh2)
      clear zA zR zS
      have HA2 := hid (HA1.out.kept0 hh2)
      have zA := HA2.out.lt
      have HR2 := hid (HR1.out.kept0 hh2)
      have zR := HR2.out.lt
      have HS2 := hid (HS1.out.kept0 hh2)
      have zS := HS2.out.lt
      have HF2 := hid ((gb_free0 hh2 (p := ⟨w.heap.size + 1 + 1, 5, none⟩) HS1.out.lt).trans HF1.out)
      clear s0' s1' s2' s3' s4' s5'
      clear hg hh2
      have r0' := HR2.out 0 _ rfl
      have r1' := HR2.out 1 _ rfl
      have r2' := HR2.out 2 _ rfl
      have r3' := HR2.out 3 _ rfl
      go_wp2_with fail
      refine (lrect_c r0 r1 r2 r3 _).mono ?_
      rintro e w3 ⟨b, q0, q1, q2, q3, rfl, hb, hg⟩
      have hh3 := gb_trans (a := w2) (by (repeat (first | exact gb_refl _ _ | assumption | refine gb_drew ?_ | refine gb_drewN ?_ _ | refine gb_alloc ?_ _ | refine gb_setCell ?_ (.inr (by simp <;> omega)) _))) hg
      have HG3 := hid (gb_trans HG2.out hh3)
      clear zA zR zS
      have HA3 := hid (HA2.out.kept0 hh3)
      have zA := HA3.out.lt
      have HR3 := hid (HR2.out.kept0 hh3)
      have zR := HR3.out.lt
      have HS3 := hid (HS2.out.kept0 hh3)
      have zS := HS3.out.lt
      have HF3 := hid ((gb_free0 hh3 (p := ⟨w.heap.size + 1 + 1, 5, none⟩) HS2.out.lt).trans HF2.out)
      clear r0' r1' r2' r3'
      clear hg hh3
      cases b
      · go_wp2_with fail
        go_ret
        exact ⟨rfl, gb_trans HG3.out (by (repeat (first | exact gb_refl _ _ | assumption | refine gb_drew ?_ | refine gb_drewN ?_ _ | refine gb_alloc ?_ _ | refine gb_setCell ?_ (.inr (by simp <;> omega)) _)))⟩
      obtain ⟨hr, rfl, rfl, rfl, rfl⟩ := hb rfl
      have HNR := hid hr
      clear hr hb
      have a0' := HA3.out 0 _ rfl
      have a1' := HA3.out 1 _ rfl
      have a2' := HA3.out 2 _ rfl
      have a3' := HA3.out 3 _ rfl
      have a4' := HA3.out 4 _ rfl
      have a5' := HA3.out 5 _ rfl
      go_wp2_with fail
      refine (target_c _ (HD.out.1.kept0 (gb_trans HG3.out (by (repeat (first | exact gb_refl _ _ | assumption | refine gb_drew ?_ | refine gb_drewN ?_ _ | refine gb_alloc ?_ _ | refine gb_setCell ?_ (.inr (by simp <;> omega)) _))))) HD.out.2.1 hn HD.out.2.2.2.1 HD.out.2.2.2.2).mono ?_
      rintro e w4 ⟨b, rfl, hb, hg⟩
      have hh4 := gb_trans (a := w3) (by (repeat (first | exact gb_refl _ _ | assumption | refine gb_drew ?_ | refine gb_drewN ?_ _ | refine gb_alloc ?_ _ | refine gb_setCell ?_ (.inr (by simp <;> omega)) _))) hg
      have HG4 := hid (gb_trans HG3.out hh4)
      clear zA zR zS
      have HA4 := hid (HA3.out.kept0 hh4)
      have zA := HA4.out.lt
      have HR4 := hid (HR3.out.kept0 hh4)
      have zR := HR4.out.lt
      have HS4 := hid (HS3.out.kept0 hh4)
      have zS := HS4.out.lt
      have HF4 := hid ((gb_free0 hh4 (p := ⟨w.heap.size + 1 + 1, 5, none⟩) HS3.out.lt).trans HF3.out)
      clear a0' a1' a2' a3' a4' a5'
      have hT : CellsAt w4 w3.heap.size [.int .i64 q0, .int .i64 q1, .int .i64 q2, .int .i64 q3] := CellsAt.kept0 (fun i v hv => by (rcases i with _ | _ | _ | _ | i <;> (first | (cases hv; go_simp; done) | (simp at hv; done)))) hg
      have HT4 := hid hT
      clear hT
      have zT := HT4.out.lt
      clear hg hh4
      cases b
      · go_wp2_with fail
        go_ret
        exact ⟨rfl, gb_trans HG4.out (by (repeat (first | exact gb_refl _ _ | assumption | refine gb_drew ?_ | refine gb_drewN ?_ _ | refine gb_alloc ?_ _ | refine gb_setCell ?_ (.inr (by simp <;> omega)) _)))⟩
      obtain ⟨kk, rfl, hkk, hv⟩ := hb rfl
      have HV := hid hv
      have HK := hid hkk
      clear hb hv hkk
      have s0' := HS4.out 0 _ rfl
      have s1' := HS4.out 1 _ rfl
      have s2' := HS4.out 2 _ rfl
      have s3' := HS4.out 3 _ rfl
      have s4' := HS4.out 4 _ rfl
      have s5' := HS4.out 5 _ rfl
      go_wp2_with fail
      refine (valid_c _ (HS.out.1.kept0 (gb_trans HG4.out (by (repeat (first | exact gb_refl _ _ | assumption | refine gb_drew ?_ | refine gb_drewN ?_ _ | refine gb_alloc ?_ _ | refine gb_setCell ?_ (.inr (by simp <;> omega)) _))))) HS.out.2.1 hn' HS.out.2.2.2.1 HS.out.2.2.2.2).mono ?_
      rintro e w5 ⟨b, rfl, hb, hg⟩
      have hh5 := gb_trans (a := w4) (by (repeat (first | exact gb_refl _ _ | assumption | refine gb_drew ?_ | refine gb_drewN ?_ _ | refine gb_alloc ?_ _ | refine gb_setCell ?_ (.inr (by simp <;> omega)) _))) hg
      have HG5 := hid (gb_trans HG4.out hh5)
      clear zA zR zS zT
      have HA5 := hid (HA4.out.kept0 hh5)
      have zA := HA5.out.lt
      have HR5 := hid (HR4.out.kept0 hh5)
      have zR := HR5.out.lt
      have HS5 := hid (HS4.out.kept0 hh5)
      have zS := HS5.out.lt
      have HT5 := hid (HT4.out.kept0 hh5)
      have zT := HT5.out.lt
      have HF5 := hid ((gb_free0 hh5 (p := ⟨w.heap.size + 1 + 1, 5, none⟩) HS4.out.lt).trans HF4.out)
      clear s0' s1' s2' s3' s4' s5'
      clear hg hh5
      cases b
      · go_wp2_with fail
        go_ret
        exact ⟨rfl, gb_trans HG5.out (by (repeat (first | exact gb_refl _ _ | assumption | refine gb_drew ?_ | refine gb_drewN ?_ _ | refine gb_alloc ?_ _ | refine gb_setCell ?_ (.inr (by simp <;> omega)) _)))⟩
      obtain ⟨k2, rfl, hv⟩ := hb rfl
      have HVS := hid hv
      clear hb hv
      have s0' := HS5.out 0 _ rfl
      go_wp2_with fail
      refine (fine_c (n := 2) (l := fun i => if i = 0 then px else py) _ (fun i hi => ?_) (by omega)).mono ?_
      · have hi' : i = 0 ∨ i = 1 := by omega
        rcases hi' with rfl | rfl <;> go_simp
      rintro e w6 ⟨⟨b, rfl, hb⟩, rfl⟩
      cases b
      · go_wp2_with fail
        go_ret
        exact ⟨rfl, gb_trans HG5.out (by (repeat (first | exact gb_refl _ _ | assumption | refine gb_drew ?_ | refine gb_drewN ?_ _ | refine gb_alloc ?_ _ | refine gb_setCell ?_ (.inr (by simp <;> omega)) _)))⟩
      obtain ⟨b3, h3⟩ : ∃ b : Bool, ((k2 : Int) == 3) = b := ⟨_, rfl⟩
      obtain ⟨b5, h5⟩ : ∃ b : Bool, ((k2 : Int) == 5) = b := ⟨_, rfl⟩
      cases b3
      rotate_left
      · go_wp2_with fail
        go_ret
        exact ⟨rfl, gb_trans HG5.out (by (repeat (first | exact gb_refl _ _ | assumption | refine gb_drew ?_ | refine gb_drewN ?_ _ | refine gb_alloc ?_ _ | refine gb_setCell ?_ (.inr (by simp <;> omega)) _)))⟩
      cases b5
      rotate_left
      · go_wp2_with fail
        go_ret
        exact ⟨rfl, gb_trans HG5.out (by (repeat (first | exact gb_refl _ _ | assumption | refine gb_drew ?_ | refine gb_drewN ?_ _ | refine gb_alloc ?_ _ | refine gb_setCell ?_ (.inr (by simp <;> omega)) _)))⟩
      have hk35 : k2 ≠ 3 ∧ k2 ≠ 5 := by
        have g3 := beq_eq_false_iff_ne.1 h3
        have g5 := beq_eq_false_iff_ne.1 h5
        omega
      have hx : nr px := hb rfl 0 (by omega)
      have hy : nr py := hb rfl 1 (by omega)
      have HXY := hid (And.intro hx hy)
      clear hb hx hy
      obtain ⟨o, ho, hand⟩ := and1 op
      obtain ⟨dh, dw, GD, gx, gy, gm, gw, gh, v1, v2, v3, v4⟩ := vk_geo (by have := HK.out; omega) HV.out
      have HGD := hid (And.intro GD (And.intro gx (And.intro gy (And.intro gm (And.intro gw (And.intro gh (And.intro v1 (And.intro v2 (And.intro v3 v4)))))))))
      obtain ⟨hk6, hpm, sh, sw, sx0, sy0, sx1, sy1, GS, DS, AS, t1, t2, hX, hB⟩ := vk_all HVS.out HS.out.2.1 HS.out.2.2.1 hn'
      have HGS := hid (And.intro GS (And.intro DS (And.intro AS (And.intro hpm hX))))
      have HC0 : Hid (∃ b0 b1 b2 b3 p0 p1 k0 k1, Cl0 q0 q1 q2 q3 px py 0 0 Xd0 Yd0 Xd1 Yd1 sx0 sy0 sx1 sy1 b0 b1 b2 b3 p0 p1 k0 k1) := hid (by
        obtain ⟨hr0, hr1, hr2, hr3⟩ := HNR.out
        obtain ⟨hx, hy⟩ := HXY.out
        unfold nr at hr0 hr1 hr2 hr3 hx hy
        exact cl0_ex (by unfold sm; omega) (by unfold sm; omega) (by unfold sm; omega) (by unfold sm; omega) (by unfold sm; omega) (by unfold sm; omega) (by unfold sm; omega) (by unfold sm; omega) (by unfold sm; omega) (by unfold sm; omega) (by unfold sm; omega) (by unfold sm; omega) (by omega) (by omega) (by omega) (by omega))
      obtain ⟨b0, b1, b2, b3, p0, p1, k0, k1, hC⟩ := HC0.out
      have HC := hid hC
      have HT12 := hid (And.intro t1 t2)
      have HC3 : Hid (Cl0 q0 q1 q2 q3 px py 0 0 Xd0 Yd0 (Xd0 + dw) (Yd0 + dh) sx0 sy0 (sx0 + sw) (sy0 + sh) b0 b1 b2 b3 p0 p1 k0 k1) := hid (by
        have h := HC.out
        rw [HGD.out.2.1, HGD.out.2.2.1, t1, t2] at h
        exact h)
      clear GD gx gy gm gw gh v1 v2 v3 v4 GS DS AS hpm hX hC t1 t2 hB
      go_upto_region 8 with fail
      refine wp_region_inv (JV w5 [some (vI kk Xd0 Yd0 Xd1 Yd1 Ad n cd), some (vR Xd0 Yd0 Xd1 Yd1), some (vR q0 q1 q2 q3), some (vI k2 X0 Y0 X1 Y1 As n' cs), some (vR sx0 sy0 sx1 sy1), some (.int .i64 px), some (.int .i64 py), some (vR 0 0 0 0), some (.tuple #[vR b0 b1 b2 b3, vP p0 p1, vP k0 k1]), some (.tuple #[vR b0 b1 b2 b3, vP p0 p1, vP k0 k1]), some (vR b0 b1 b2 b3), some (vP p0 p1), some (vP k0 k1), none, none, none, none, none, none] [(13, 16, [.int .i64 b0, .int .i64 b1, .int .i64 b2, .int .i64 b3]), (14, 17, [.int .i64 p0, .int .i64 p1]), (15, 18, [.int .i64 k0, .int .i64 k1])]) (fun _ => undef) (by kernel_rfl) (by kernel_rfl) [(0, 72), (1, 73), (2, 74), (3, 75), (4, 76), (5, 77), (6, 78), (7, 79), (8, 80), (9, 71), (10, 81), (11, 82), (12, 83), (13, 18), (14, 19), (15, 20)] (by kernel_rfl) (JV.start (by (repeat (first | exact gb_refl _ _ | assumption | refine gb_drew ?_ | refine gb_drewN ?_ _ | refine gb_alloc ?_ _ | refine gb_setCell ?_ (.inr (by simp <;> omega)) _)))) ?_ ?_
      · refine Steps'.cons [] (by kernel_rfl) ?_ (Steps'.cons [(0, 72)] (by kernel_rfl) ?_ (Steps'.cons [] (by kernel_rfl) ?_ (Steps'.cons [] (by kernel_rfl) ?_ (Steps'.cons [(3, 75)] (by kernel_rfl) ?_ (Steps'.cons [] (by kernel_rfl) ?_ (Steps'.cons [] (by kernel_rfl) ?_ (Steps'.cons [] (by kernel_rfl) ?_ (Steps'.cons [(1, 73), (2, 74), (4, 76), (5, 77), (6, 78), (7, 79)] (by kernel_rfl) ?_ (Steps'.cons [(8, 80)] (by kernel_rfl) ?_ (Steps'.cons [(9, 71)] (by kernel_rfl) ?_ (Steps'.cons [(9, 71)] (by kernel_rfl) ?_ (Steps'.cons [(9, 71)] (by kernel_rfl) ?_ (Steps'.cons [] (by kernel_rfl) ?_ (Steps'.cons [] (by kernel_rfl) ?_ (Steps'.cons [] (by kernel_rfl) ?_ (Steps'.cons [(10, 81), (13, 18)] (by kernel_rfl) ?_ (Steps'.cons [(11, 82), (14, 19)] (by kernel_rfl) ?_ (Steps'.cons [(12, 83), (15, 20)] (by kernel_rfl) ?_ (Steps'.nil)))))))))))))))))))
        · intro l t w7 hJ hl hd bb hbb K hK
          have f0 := (HA5.out.kept0 hJ.gb) 0 _ rfl
          have f1 := (HA5.out.kept0 hJ.gb) 1 _ rfl
          have f2 := (HA5.out.kept0 hJ.gb) 2 _ rfl
          have f3 := (HA5.out.kept0 hJ.gb) 3 _ rfl
          have f4 := (HA5.out.kept0 hJ.gb) 4 _ rfl
          have f5 := (HA5.out.kept0 hJ.gb) 5 _ rfl
          simp only [puts, Act.put, List.setIfInBounds_toArray, List.set_cons_zero, List.set_cons_succ] at hbb
          subst hbb
          go_simp
          exact hK.out _ _ (hJ.pure (gb_refl _ _) rfl rfl)
        · intro l t w7 hJ hl hd bb hbb K hK
          have e0 := hJ.val 0 _ rfl (hd 0 (by kernel_rfl))
          simp only [puts, Act.put, List.setIfInBounds_toArray, List.set_cons_zero, List.set_cons_succ] at hbb
          rw [e0] at hbb
          subst hbb
          go_simp
          refine (sbounds_k (vk_dat (by have := HK.out; omega) HV.out HD.out.2.1 hn) Ad n cd _).mono ?_
          rintro e w8 ⟨rfl, hg⟩
          exact hK.out _ _ (hJ.pure hg rfl rfl)
        · intro l t w7 hJ hl hd bb hbb K hK
          have f0 := (HT5.out.kept0 hJ.gb) 0 _ rfl
          have f1 := (HT5.out.kept0 hJ.gb) 1 _ rfl
          have f2 := (HT5.out.kept0 hJ.gb) 2 _ rfl
          have f3 := (HT5.out.kept0 hJ.gb) 3 _ rfl
          simp only [puts, Act.put, List.setIfInBounds_toArray, List.set_cons_zero, List.set_cons_succ] at hbb
          subst hbb
          go_simp
          exact hK.out _ _ (hJ.pure (gb_refl _ _) rfl rfl)
        · intro l t w7 hJ hl hd bb hbb K hK
          have f0 := (HS5.out.kept0 hJ.gb) 0 _ rfl
          have f1 := (HS5.out.kept0 hJ.gb) 1 _ rfl
          have f2 := (HS5.out.kept0 hJ.gb) 2 _ rfl
          have f3 := (HS5.out.kept0 hJ.gb) 3 _ rfl
          have f4 := (HS5.out.kept0 hJ.gb) 4 _ rfl
          have f5 := (HS5.out.kept0 hJ.gb) 5 _ rfl
          simp only [puts, Act.put, List.setIfInBounds_toArray, List.set_cons_zero, List.set_cons_succ] at hbb
          subst hbb
          go_simp
          exact hK.out _ _ (hJ.pure (gb_refl _ _) rfl rfl)
        · intro l t w7 hJ hl hd bb hbb K hK
          have e3 := hJ.val 3 _ rfl (hd 3 (by kernel_rfl))
          simp only [puts, Act.put, List.setIfInBounds_toArray, List.set_cons_zero, List.set_cons_succ] at hbb
          rw [e3] at hbb
          subst hbb
          go_simp
          refine (sbounds_k HGS.out.2.1 As n' cs _).mono ?_
          rintro e w8 ⟨rfl, hg⟩
          exact hK.out _ _ (hJ.pure hg rfl rfl)
        · intro l t w7 hJ hl hd bb hbb K hK
          simp only [puts, Act.put, List.setIfInBounds_toArray, List.set_cons_zero, List.set_cons_succ] at hbb
          subst hbb
          go_simp
          exact hK.out _ _ (hJ.pure (gb_refl _ _) rfl rfl)
        · intro l t w7 hJ hl hd bb hbb K hK
          simp only [puts, Act.put, List.setIfInBounds_toArray, List.set_cons_zero, List.set_cons_succ] at hbb
          subst hbb
          go_simp
          exact hK.out _ _ (hJ.pure (gb_refl _ _) rfl rfl)
        · intro l t w7 hJ hl hd bb hbb K hK
          simp only [puts, Act.put, List.setIfInBounds_toArray, List.set_cons_zero, List.set_cons_succ] at hbb
          subst hbb
          go_simp
          exact hK.out _ _ (hJ.pure (gb_refl _ _) rfl rfl)
        · intro l t w7 hJ hl hd bb hbb K hK
          have e1 := hJ.val 1 _ rfl (hd 1 (by kernel_rfl))
          have e2 := hJ.val 2 _ rfl (hd 2 (by kernel_rfl))
          have e4 := hJ.val 4 _ rfl (hd 4 (by kernel_rfl))
          have e5 := hJ.val 5 _ rfl (hd 5 (by kernel_rfl))
          have e6 := hJ.val 6 _ rfl (hd 6 (by kernel_rfl))
          have e7 := hJ.val 7 _ rfl (hd 7 (by kernel_rfl))
          simp only [puts, Act.put, List.setIfInBounds_toArray, List.set_cons_zero, List.set_cons_succ] at hbb
          rw [e1] at hbb
          rw [e2] at hbb
          rw [e4] at hbb
          rw [e5] at hbb
          rw [e6] at hbb
          rw [e7] at hbb
          subst hbb
          go_simp
          refine (sclip0_c _ HC.out).mono ?_
          rintro e w8 ⟨rfl, hg⟩
          exact hK.out _ _ (hJ.pure hg rfl rfl)
        · intro l t w7 hJ hl hd bb hbb K hK
          have e8 := hJ.val 8 _ rfl (hd 8 (by kernel_rfl))
          simp only [puts, Act.put, List.setIfInBounds_toArray, List.set_cons_zero, List.set_cons_succ] at hbb
          rw [e8] at hbb
          subst hbb
          go_simp
          exact hK.out _ _ (hJ.pure (gb_refl _ _) rfl rfl)
        · intro l t w7 hJ hl hd bb hbb K hK
          have e9 := hJ.val 9 _ rfl (hd 9 (by kernel_rfl))
          simp only [puts, Act.put, List.setIfInBounds_toArray, List.set_cons_zero, List.set_cons_succ] at hbb
          rw [e9] at hbb
          subst hbb
          go_simp
          exact hK.out _ _ (hJ.pure (gb_refl _ _) rfl rfl)
        · intro l t w7 hJ hl hd bb hbb K hK
          have e9 := hJ.val 9 _ rfl (hd 9 (by kernel_rfl))
          simp only [puts, Act.put, List.setIfInBounds_toArray, List.set_cons_zero, List.set_cons_succ] at hbb
          rw [e9] at hbb
          subst hbb
          go_simp
          exact hK.out _ _ (hJ.pure (gb_refl _ _) rfl rfl)
        · intro l t w7 hJ hl hd bb hbb K hK
          have e9 := hJ.val 9 _ rfl (hd 9 (by kernel_rfl))
          simp only [puts, Act.put, List.setIfInBounds_toArray, List.set_cons_zero, List.set_cons_succ] at hbb
          rw [e9] at hbb
          subst hbb
          go_simp
          exact hK.out _ _ (hJ.pure (gb_refl _ _) rfl rfl)
        · intro l t w7 hJ hl hd bb hbb K hK
          simp only [puts, Act.put, List.setIfInBounds_toArray, List.set_cons_zero, List.set_cons_succ] at hbb
          subst hbb
          go_simp
          exact hK.out _ _ (hJ.alloc (vsOK3 rfl) (C := #[.int .i64 0, .int .i64 0, .int .i64 0, .int .i64 0]) (s := 16) (vals := [.int .i64 b0, .int .i64 b1, .int .i64 b2, .int .i64 b3]) (by simp) rfl hl rfl rfl)
        · intro l t w7 hJ hl hd bb hbb K hK
          simp only [puts, Act.put, List.setIfInBounds_toArray, List.set_cons_zero, List.set_cons_succ] at hbb
          subst hbb
          go_simp
          exact hK.out _ _ (hJ.alloc (vsOK3 rfl) (C := #[.int .i64 0, .int .i64 0]) (s := 17) (vals := [.int .i64 p0, .int .i64 p1]) (by simp) rfl hl rfl rfl)
        · intro l t w7 hJ hl hd bb hbb K hK
          simp only [puts, Act.put, List.setIfInBounds_toArray, List.set_cons_zero, List.set_cons_succ] at hbb
          subst hbb
          go_simp
          exact hK.out _ _ (hJ.alloc (vsOK3 rfl) (C := #[.int .i64 0, .int .i64 0]) (s := 18) (vals := [.int .i64 k0, .int .i64 k1]) (by simp) rfl hl rfl rfl)
        · intro l t w7 hJ hl hd bb hbb K hK
          obtain ⟨g, eg, -, -, hc⟩ := hJ.open (a := 13) (s := 16) (vals := [.int .i64 b0, .int .i64 b1, .int .i64 b2, .int .i64 b3]) (by simp) (hd 13 (by kernel_rfl))
          obtain ⟨⟨u0, c0⟩, z0⟩ := hc 0 (by simp)
          obtain ⟨⟨u1, c1⟩, z1⟩ := hc 1 (by simp)
          obtain ⟨⟨u2, c2⟩, z2⟩ := hc 2 (by simp)
          obtain ⟨⟨u3, c3⟩, z3⟩ := hc 3 (by simp)
          have e10 := hJ.val 10 _ rfl (hd 10 (by kernel_rfl))
          simp only [puts, Act.put, List.setIfInBounds_toArray, List.set_cons_zero, List.set_cons_succ] at hbb
          rw [e10] at hbb
          rw [eg] at hbb
          subst hbb
          go_simp
          obtain ⟨y1, y2, y3⟩ := st4 c0 c1 c2 c3
          exact hK.out undef _ (hJ.store (u := undef) (vsOK3 rfl) (a := 13) (vals := [.int .i64 b0, .int .i64 b1, .int .i64 b2, .int .i64 b3]) (by simp) rfl (hd 13 (by kernel_rfl)) eg y1 y2 y3)
        · intro l t w7 hJ hl hd bb hbb K hK
          obtain ⟨g, eg, -, -, hc⟩ := hJ.open (a := 14) (s := 17) (vals := [.int .i64 p0, .int .i64 p1]) (by simp) (hd 14 (by kernel_rfl))
          obtain ⟨⟨u0, c0⟩, z0⟩ := hc 0 (by simp)
          obtain ⟨⟨u1, c1⟩, z1⟩ := hc 1 (by simp)
          have e11 := hJ.val 11 _ rfl (hd 11 (by kernel_rfl))
          simp only [puts, Act.put, List.setIfInBounds_toArray, List.set_cons_zero, List.set_cons_succ] at hbb
          rw [e11] at hbb
          rw [eg] at hbb
          subst hbb
          go_simp
          obtain ⟨y1, y2, y3⟩ := st2 c0 c1
          exact hK.out undef _ (hJ.store (u := undef) (vsOK3 rfl) (a := 14) (vals := [.int .i64 p0, .int .i64 p1]) (by simp) rfl (hd 14 (by kernel_rfl)) eg y1 y2 y3)
        · intro l t w7 hJ hl hd bb hbb K hK
          obtain ⟨g, eg, -, -, hc⟩ := hJ.open (a := 15) (s := 18) (vals := [.int .i64 k0, .int .i64 k1]) (by simp) (hd 15 (by kernel_rfl))
          obtain ⟨⟨u0, c0⟩, z0⟩ := hc 0 (by simp)
          obtain ⟨⟨u1, c1⟩, z1⟩ := hc 1 (by simp)
          have e12 := hJ.val 12 _ rfl (hd 12 (by kernel_rfl))
          simp only [puts, Act.put, List.setIfInBounds_toArray, List.set_cons_zero, List.set_cons_succ] at hbb
          rw [e12] at hbb
          rw [eg] at hbb
          subst hbb
          go_simp
          obtain ⟨y1, y2, y3⟩ := st2 c0 c1
          exact hK.out undef _ (hJ.store (u := undef) (vsOK3 rfl) (a := 15) (vals := [.int .i64 k0, .int .i64 k1]) (by simp) rfl (hd 15 (by kernel_rfl)) eg y1 y2 y3)
      intro l t wc hJ hl
      obtain ⟨g, e13, hg13, -, hgc⟩ := hJ.var (a := 13) (s := 16) (vals := [.int .i64 b0, .int .i64 b1, .int .i64 b2, .int .i64 b3]) (by simp) (hl 13 (by decide)) (hl 16 (by decide))
      obtain ⟨h, e14, -, -, hhc⟩ := hJ.var (a := 14) (s := 17) (vals := [.int .i64 p0, .int .i64 p1]) (by simp) (hl 14 (by decide)) (hl 17 (by decide))
      obtain ⟨i9, e15, -, -, hic⟩ := hJ.var (a := 15) (s := 18) (vals := [.int .i64 k0, .int .i64 k1]) (by simp) (hl 15 (by decide)) (hl 18 (by decide))
      have hgw := hJ.gb
      have HB4 : Hid (CellsAt wc g [.int .i64 b0, .int .i64 b1, .int .i64 b2, .int .i64 b3]) := hid hgc
      have HP2 : Hid (CellsAt wc h [.int .i64 p0, .int .i64 p1]) := hid hhc
      have HK2 : Hid (CellsAt wc i9 [.int .i64 k0, .int .i64 k1]) := hid hic
      have HAc := hid (HA5.out.kept0 hgw)
      have HRc := hid (HR5.out.kept0 hgw)
      have HSc := hid (HS5.out.kept0 hgw)
      have HGc := hid (gb_trans HG5.out hgw)
      have HFc := hid ((gb_free0 hgw (p := ⟨w.heap.size + 1 + 1, 5, none⟩) HS5.out.lt).trans HF5.out)
      have hgS : g ≠ w.heap.size + 1 + 1 := by have := HS5.out.lt; omega
      clear hJ hl hgc hhc hic hgw hg13
      simp only [puts, Act.put, List.setIfInBounds_toArray, List.set_cons_zero, List.set_cons_succ]
      rw [e13, e14, e15]
      clear e13 e14 e15
      have sc5 := HSc.out 5 _ rfl
      have zSc := HSc.out.lt
      have zAc := HAc.out.lt
      have zRc := HRc.out.lt
      have zgc := HB4.out.lt
      cases bm
      · have hmk := fun w => mk_zero n' hn' w
        have hfz := HFc.out
        go_upto_region 12 with fail
        obtain ⟨wz, hwz⟩ : ∃ wz : World, wz = (wc.setCell ⟨w.heap.size + 1 + 1, 5, none⟩ (.slice (some ⟨wc.heap.size, 0, none⟩) n' n')).alloc (.cells (madeCells #[.int .u8 0] n') 5) := ⟨_, rfl⟩
        rw [← hwz]
        have hgz : wc.grownBy wz (some (w.heap.size + 1 + 1)) := by rw [hwz]; exact gb_alloc (gb_setCell (gb_refl _ _) (.inl rfl) _) _
        have HGz : Hid (w.grownBy wz none) := hid (by rw [hwz]; exact gb_alloc (gb_setCell HGc.out (.inr (by show w.heap.size ≤ w.heap.size + 1 + 1; omega)) _) _)
        have HAz := hid (HAc.out.keptN hgz (by omega))
        have HRz := hid (HRc.out.keptN hgz (by omega))
        have HBz := hid (HB4.out.keptN hgz hgS)
        have sc0 := HSc.out 0 _ rfl
        have sc1 := HSc.out 1 _ rfl
        have sc2 := HSc.out 2 _ rfl
        have sc3 := HSc.out 3 _ rfl
        have sc4 := HSc.out 4 _ rfl
        have hSz : CellsAt wz (w.heap.size + 1 + 1) [.int .i64 k2, .int .i64 X0, .int .i64 Y0, .int .i64 X1, .int .i64 Y1, .slice (some ⟨wc.heap.size, 0, none⟩) n' n'] := fun i v hv => by
          rw [hwz]
          rcases i with _ | _ | _ | _ | _ | _ | i <;> (first | (cases hv; go_simp; done) | (simp at hv; done))
        have hZz : Rd wz (some ⟨wc.heap.size, 0, none⟩) n' (fun _ => 0) := by
          have h := rd_zero n' (wc.setCell ⟨w.heap.size + 1 + 1, 5, none⟩ (.slice (some ⟨wc.heap.size, 0, none⟩) n' n'))
          rw [← hwz] at h
          simpa using h
        have HSz := hid hSz
        have HZz := hid hZz
        clear hSz hZz hgz hwz sc0 sc1 sc2 sc3 sc4 sc5 hmk hfz zSc zAc zRc zgc
        have a0' := HAz.out 0 _ rfl
        have a1' := HAz.out 1 _ rfl
        have a2' := HAz.out 2 _ rfl
        have a3' := HAz.out 3 _ rfl
        have a4' := HAz.out 4 _ rfl
        have a5' := HAz.out 5 _ rfl
        have r0' := HRz.out 0 _ rfl
        have r1' := HRz.out 1 _ rfl
        have r2' := HRz.out 2 _ rfl
        have r3' := HRz.out 3 _ rfl
        have s0' := HSz.out 0 _ rfl
        have s1' := HSz.out 1 _ rfl
        have s2' := HSz.out 2 _ rfl
        have s3' := HSz.out 3 _ rfl
        have s4' := HSz.out 4 _ rfl
        have s5' := HSz.out 5 _ rfl
        go_wp2_with fail
        refine (idraw_of (q := resB kk dw (In0 q0 q1 q2 q3 px py Xd0 Yd0 sx0 sy0 sh sw) (fun r c => px0 kk k2 o (toP dw (sz kk) p r c) (srcAt k2 sw (fun _ => 0) q0 q1 px py Xd0 Yd0 sx0 sy0 r c)) p) (by have := HK.out; omega) (HD.out.1.kept0 (gb_trans HGz.out (by (repeat (first | exact gb_refl _ _ | assumption | refine gb_drew ?_ | refine gb_drewN ?_ _ | refine gb_alloc ?_ _ | refine gb_setCell ?_ (.inr (by simp <;> omega)) _))))) (HZz.out.kept0 (by (repeat (first | exact gb_refl _ _ | assumption | refine gb_drew ?_ | refine gb_drewN ?_ _ | refine gb_alloc ?_ _ | refine gb_setCell ?_ (.inr (by simp <;> omega)) _)))) (vk_dat (by have := HK.out; omega) HV.out HD.out.2.1 hn) (dat_zero HGS.out.2.1)
          (fun w' B B' c c' b b' A A' td ts h1 h2 h3 => mdm0_all ho (by have := HK.out; omega) hk6 h1 h2 HGD.out.1 HGS.out.1 HD.out.2.1 by0 (pmk_zero hk6) h3 (by have h1 := HNR.out; unfold nr at h1; unfold sm; omega) (by have h1 := HNR.out; unfold nr at h1; unfold sm; omega) (by have h1 := HNR.out; have h2 := HXY.out; unfold nr at h1 h2; unfold sm; omega) (by have h1 := HNR.out; have h2 := HXY.out; unfold nr at h1 h2; unfold sm; omega) (by have h1 := HNR.out; have h2 := HXY.out; unfold nr at h1 h2; unfold sm; omega) (by have h1 := HNR.out; have h2 := HXY.out; unfold nr at h1 h2; unfold sm; omega))).mono ?_
        rintro e w9 ⟨A8, c8, rfl, ho8, hg9⟩
        obtain ⟨q, hq⟩ : ∃ q, resB kk dw (In0 q0 q1 q2 q3 px py Xd0 Yd0 sx0 sy0 sh sw) (fun r c => px0 kk k2 o (toP dw (sz kk) p r c) (srcAt k2 sw (fun _ => 0) q0 q1 px py Xd0 Yd0 sx0 sy0 r c)) p = q := ⟨_, rfl⟩
        rw [hq] at ho8
        have hh9 := gb_trans (a := wz) (by (repeat (first | exact gb_refl _ _ | assumption | refine gb_drew ?_ | refine gb_drewN ?_ _ | refine gb_alloc ?_ _ | refine gb_setCell ?_ (.inr (by simp <;> omega)) _))) hg9
        have HG9 := hid (gb_trans HGz.out hh9)
        have HA9 := hid (HAz.out.kept0 hh9)
        have HB9 := hid (HBz.out.kept0 hh9)
        have HO9 := hid ho8.rd
        obtain ⟨dd1, dd2⟩ := ho8.le
        have HL9 : Hid (∀ r c ch, r < dh → c < dw → ch < sz kk → q ((r * dw + c) * sz kk + ch) = keptP kk dw o b0 b1 b2 b3 Xd0 Yd0 p r c ch) := hid (fun r c ch h1 h2 h3 => by
          rw [← kept_src (by have := HK.out; omega) ho hk35 HD.out.2.1 (HC3.out) h1 h2 h3, cutN_lt (at_lt h1 h2 h3), hq])
        clear hq ho8 hg9 hh9 a0' a1' a2' a3' a4' a5' r0' r1' r2' r3' s0' s1' s2' s3' s4' s5'
        obtain ⟨S, hS⟩ : ∃ S : Nat, sz kk = S := ⟨_, rfl⟩
        have hS8 : 1 ≤ S ∧ S ≤ 8 := by
          rw [← hS]
          have h := HK.out
          rcases h with rfl | rfl | rfl <;> decide
        have HSS := hid hS
        have ho1 : o ≤ 1 := ho
        have a0' := HA9.out 0 _ rfl
        have a2' := HA9.out 2 _ rfl
        have a5' := HA9.out 5 _ rfl
        go_wp2_with fail
        refine (size_c kk (by have := HK.out; omega) _).mono ?_
        rintro e wz ⟨rfl, rfl⟩
        rw [HSS.out]
        go_wp2_with fail
        clear a0' a2' a5'
        have zA := HA9.out.lt
        go_loopw [23, 22] (fun u v wr => ∃ (j i : Nat), j ≤ dh ∧ i = (j * dw) * S ∧ u = .int .i64 (Yd0 + (j : Int)) ∧ v = .int .i64 (i : Int) ∧ w9.grownBy wr none) (fun u _ _ => (Yd1 - intOf u).toNat)
        case atStart =>
          have h2 := HGD.out.2.2.2
          exact ⟨0, 0, by omega, by omega, by first | rfl | (congr 1; omega), rfl, gb_refl _ _⟩
        case round =>
          obtain ⟨j, i, hj, hi, rfl, rfl, hgr⟩ := hrel
          obtain ⟨-, gx, gy, gm, gw, gh, v1, v2, v3, v4⟩ := HGD.out
          have HR := hid hgr
          have HAr := hid (HA9.out.kept0 hgr)
          have a1r := HAr.out 1 _ rfl
          have a2r := HAr.out 2 _ rfl
          have a3r := HAr.out 3 _ rfl
          have a4r := HAr.out 4 _ rfl
          have Hi := hid hi
          clear hi hgr gm
          by_cases hlt : j < dh
          · have t1 : Yd0 + (j : Int) < Yd1 := by omega
            clear gx gy
            go_wp2_with fail
            obtain ⟨wo, hwo⟩ : ∃ wo : World, wo = wr := ⟨_, rfl⟩
            go_loopw [24, 22] (fun u v wr => ∃ (c i : Nat), c ≤ dw ∧ i = (j * dw + c) * S ∧ u = .int .i64 (Xd0 + (c : Int)) ∧ v = .int .i64 (i : Int) ∧ w9.grownBy wr none) (fun u _ _ => (Xd1 - intOf u).toNat)
            case atStart => exact ⟨0, i, by omega, Hi.out, by first | rfl | (congr 1; omega), rfl, HR.out⟩
            case round =>
              clear hwo wo a1r a2r a3r a4r HR HAr
              obtain ⟨c, i', hc, hi', rfl, rfl, hgr⟩ := hrel
              have HR := hid hgr
              have HAr := hid (HA9.out.kept0 hgr)
              have a1r := HAr.out 1 _ rfl
              have a2r := HAr.out 2 _ rfl
              have a3r := HAr.out 3 _ rfl
              have a4r := HAr.out 4 _ rfl
              obtain ⟨-, gx, gy, gm, gw, gh, v1, v2, v3, v4⟩ := HGD.out
              have Hi2 := hid hi'
              by_cases hlc : c < dw
              · have t2 : Xd0 + (c : Int) < Xd1 := by omega
                have hfit : i' + S ≤ n := by
                  have h := at_lt (kd := kk) (ch := S - 1) hlt hlc (by rw [HSS.out]; omega)
                  rw [HSS.out] at h gm
                  rw [hi', gm]; omega
                obtain ⟨i2, hi2⟩ : ∃ i2 : Nat, i' + S = i2 := ⟨_, rfl⟩
                have e3 : (i' : Int) + (S : Int) = (i2 : Int) := by omega
                have s3 : IntKind.i64.wrap (i2 : Int) = (i2 : Int) := IntWalk.i64_in _ (by omega)
                have HI2 := hid hi2
                clear hi2
                have HGX := hid (And.intro gx hlc)
                have Hfit := hid hfit
                clear hi' hgr gm gy gx hfit
                go_wp2_with fail
                obtain ⟨wo, hwo⟩ : ∃ wo : World, wo = wr := ⟨_, rfl⟩
                go_loopw [132] (fun u wr => ∃ k : Nat, k ≤ S ∧ u = .int .i64 (k : Int) ∧ w9.grownBy wr none) (fun u _ => S - (intOf u).toNat)
                case atStart => exact ⟨0, by omega, rfl, HR.out⟩
                case round =>
                  clear hwo wo a1r a2r a3r a4r HR HAr
                  obtain ⟨k, hk, rfl, hgr⟩ := hrel
                  have HR := hid hgr
                  by_cases hks : k < S
                  · obtain ⟨M, hM⟩ : ∃ M : Nat, i' + k = M := ⟨_, rfl⟩
                    have e1 : (i' : Int) + (k : Int) = (M : Int) := by omega
                    have hMn : M < n := by have := Hfit.out; omega
                    have s1 : IntKind.i64.wrap (M : Int) = (M : Int) := IntWalk.i64_in _ (by omega)
                    obtain ⟨a, rfl, hb1, hca⟩ := (HD.out.1.kept0 (gb_trans HG9.out hgr)) (by omega)
                    obtain ⟨b, rfl, hb2, hcb⟩ := (HO9.out.kept0 hgr) (by omega)
                    have i0 := hca M hMn
                    have i1 := hcb M hMn
                    have hq : q M = keptP kk dw o b0 b1 b2 b3 Xd0 Yd0 p j c k := by
                      have h := HL9.out j c k hlt HGX.out.2 (by rw [HSS.out]; exact hks)
                      rw [HSS.out, ← Hi2.out, hM] at h
                      exact h
                    have hp0 : (j * dw + c) * sz kk + k = M := by rw [HSS.out, ← Hi2.out]; exact hM
                    have a5r := (HA9.out.kept0 hgr) 5 _ rfl
                    have B := HD.out.2.1 M
                    have HBr := hid (HB9.out.kept0 hgr)
                    unfold keptP at hq
                    rw [hp0] at hq
                    obtain ⟨k1, hk1⟩ : ∃ k1 : Nat, k + 1 = k1 := ⟨_, rfl⟩
                    have k1e : (k : Int) + 1 = (k1 : Int) := by omega
                    have s4 : IntKind.i64.wrap (k1 : Int) = (k1 : Int) := IntWalk.i64_in _ (by omega)
                    have HK1 := hid hk1
                    clear hk1
                    have HM := hid hM
                    have Hk := hid hk
                    have HMn := hid hMn
                    have hop : o = 0 ∨ o = 1 := by omega
                    clear hca hcb hM hp0 hk e3 s3
                    rcases hop with rfl | rfl
                    · rw [if_neg (by rintro ⟨h, -⟩; omega)] at hq
                      rw [hq] at i1
                      obtain ⟨u, hu⟩ : ∃ u, p M = u := ⟨_, rfl⟩
                      rw [hu] at i0 i1 B
                      clear hq hu hb1 hb2 hgr
                      go_wp2_with fail
                      exact ⟨⟨k1, by have := HK1.out; omega, rfl, HR.out⟩, by have := HK1.out; simp [intOf]; omega⟩
                    · by_cases hin : InC b0 b1 b2 b3 Xd0 Yd0 j c
                      · rw [if_pos ⟨rfl, hin⟩] at hq
                        rw [hq] at i1
                        have x0 := HBr.out 0 _ rfl
                        have x1 := HBr.out 1 _ rfl
                        have x2 := HBr.out 2 _ rfl
                        have x3 := HBr.out 3 _ rfl
                        obtain ⟨u, hu⟩ : ∃ u, p M = u := ⟨_, rfl⟩
                        rw [hu] at i0 B
                        have Hin := hid hin
                        clear hq hu hin
                        go_wp2_with fail
                        refine (shas_y b0 b1 b2 b3 _ _ _ Hin.out.1 Hin.out.2.1 Hin.out.2.2.1 Hin.out.2.2.2).mono ?_
                        rintro e w8 ⟨rfl, hg8⟩
                        have i1' : w8.cell? (b.add M) = some (.int .u8 0) := (gb_cell0 hg8 (by rw [add_block]; exact hb2)).trans i1
                        have HR8 := hid (gb_trans HR.out hg8)
                        clear i0 i1 x0 x1 x2 x3 hg8 hb1 hb2 hgr
                        go_wp2_with fail
                        go_roundw
                        case rel =>
                          (repeat apply Exists.intro)
                          refine ⟨?_, rfl⟩
                          exact ⟨k1, by have := HK1.out; omega, rfl, HR8.out⟩
                        case measure =>
                          have := HK1.out
                          simp [intOf]; omega
                      · rw [if_neg (fun h => hin h.2)] at hq
                        rw [hq] at i1
                        have x0 := HBr.out 0 _ rfl
                        have x1 := HBr.out 1 _ rfl
                        have x2 := HBr.out 2 _ rfl
                        have x3 := HBr.out 3 _ rfl
                        obtain ⟨u, hu⟩ : ∃ u, p M = u := ⟨_, rfl⟩
                        rw [hu] at i0 i1 B
                        have Hin := hid hin
                        clear hq hu hin
                        go_wp2_with fail
                        refine (shas_n b0 b1 b2 b3 _ _ _ Hin.out).mono ?_
                        rintro e w8 ⟨rfl, hg8⟩
                        have i1' : w8.cell? (b.add M) = some (.int .u8 u) := (gb_cell0 hg8 (by rw [add_block]; exact hb2)).trans i1
                        have HR8 := hid (gb_trans HR.out hg8)
                        clear i0 i1 x0 x1 x2 x3 hg8 hb1 hb2 hgr
                        go_wp2_with fail
                        go_roundw
                        case rel =>
                          (repeat apply Exists.intro)
                          refine ⟨?_, rfl⟩
                          exact ⟨k1, by have := HK1.out; omega, rfl, HR8.out⟩
                        case measure =>
                          have := HK1.out
                          simp [intOf]; omega
                  · have hkS : k = S := by omega
                    clear hk
                    go_wp2_with fail
                    exact ⟨⟨c + 1, i2, by have := HGX.out.2; omega, by have h := Hi2.out; have h2 := HI2.out; rw [← Nat.add_assoc, Nat.add_mul (j * dw + c) 1]; omega, by first | rfl | (congr 1; push_cast; omega), by first | rfl | (congr 1; push_cast; omega), HR.out⟩, by have := HGX.out; simp [intOf]; omega⟩
              · have t2 : ¬ (Xd0 + (c : Int) < Xd1) := by omega
                have hcd : c = dw := by omega
                have HGY := hid gy
                clear hi' hgr gm gy gx
                go_wp2_with fail
                exact ⟨⟨j + 1, i', by omega, by have h := Hi2.out; rw [hcd] at h; rw [h, Nat.add_mul j 1 dw, Nat.one_mul], by first | rfl | (congr 1; push_cast; omega), rfl, HR.out⟩, by have := HGY.out; simp [intOf]; omega⟩
          · have t1 : ¬ (Yd0 + (j : Int) < Yd1) := by omega
            clear gx gy
            go_wp2_with fail
            go_ret
            exact ⟨rfl, gb_trans HG9.out HR.out⟩
      · have hmk : ∀ w, (Instr.makeSlice 22 (.int .i64 8) (.int .i64 8)).run Tryz.prog w = .ok (.slice (some ⟨w.heap.size, 0, none⟩) 8 8) (w.alloc (.cells (madeCells #[.int .u8 0] 8) 5)) := fun w => mk_zero 8 (by omega) w
        go_upto_region 10 with fail
        obtain ⟨q, hq⟩ : ∃ q, resB kk dw (In1 q0 q1 q2 q3 px py 0 0 Xd0 Yd0 sx0 sy0 (-1000000000) (-1000000000) sh sw 2000000000 2000000000) (fun r c => pxM kk k2 6 o (toP dw (sz kk) p r c) (srcAt k2 sw s q0 q1 px py Xd0 Yd0 sx0 sy0 r c) (srcAt 6 2000000000 (fun _ => 0) q0 q1 0 0 Xd0 Yd0 (-1000000000) (-1000000000) r c)) p = q := ⟨_, rfl⟩
        refine wp_region_inv (JQ wc [some (vI kk Xd0 Yd0 Xd1 Yd1 Ad n cd), some (vR q0 q1 q2 q3), some (vI k2 X0 Y0 X1 Y1 As n' cs), some (.int .i64 px), some (.int .i64 py), none, none, some (.int .i64 o), none, none] [] (R8 n wc.heap.size q [8, 9] 5 6)) (fun _ => undef) (by kernel_rfl) (by kernel_rfl) [(0, 85), (1, 86), (2, 87), (3, 88), (4, 89), (5, 90), (6, 91), (7, 92), (8, 93), (9, 17)] (by kernel_rfl) (JQ.start (by (repeat (first | exact gb_refl _ _ | assumption | refine gb_drew ?_ | refine gb_drewN ?_ _ | refine gb_alloc ?_ _ | refine gb_setCell ?_ (.inr (by simp <;> omega)) _)))) ?_ ?_
        · refine Steps'.cons [] (by kernel_rfl) ?_ (Steps'.cons [] (by kernel_rfl) ?_ (Steps'.cons [] (by kernel_rfl) ?_ (Steps'.cons [] (by kernel_rfl) ?_ (Steps'.cons [] (by kernel_rfl) ?_ (Steps'.cons [] (by kernel_rfl) ?_ (Steps'.cons [(5, 90)] (by kernel_rfl) ?_ (Steps'.cons [] (by kernel_rfl) ?_ (Steps'.cons [(0, 85), (1, 86), (2, 87), (3, 88), (4, 89), (6, 91), (7, 92)] (by kernel_rfl) ?_ (Steps'.cons [(8, 93)] (by kernel_rfl) ?_ (Steps'.nil))))))))))
          · intro l t w7 hJ hl hd bb hbb K hK
            have f0 := (HAc.out.kept0 hJ.1.gb) 0 _ rfl
            have f1 := (HAc.out.kept0 hJ.1.gb) 1 _ rfl
            have f2 := (HAc.out.kept0 hJ.1.gb) 2 _ rfl
            have f3 := (HAc.out.kept0 hJ.1.gb) 3 _ rfl
            have f4 := (HAc.out.kept0 hJ.1.gb) 4 _ rfl
            have f5 := (HAc.out.kept0 hJ.1.gb) 5 _ rfl
            simp only [puts, Act.put, List.setIfInBounds_toArray, List.set_cons_zero, List.set_cons_succ] at hbb
            subst hbb
            go_simp
            exact hK.out _ _ (hJ.pure R8.kept (gb_refl _ _) rfl rfl (by refine ⟨fun h => ?_, fun h => ?_, fun h => ?_⟩ <;> (exfalso; revert h; decide)))
          · intro l t w7 hJ hl hd bb hbb K hK
            have f0 := (HRc.out.kept0 hJ.1.gb) 0 _ rfl
            have f1 := (HRc.out.kept0 hJ.1.gb) 1 _ rfl
            have f2 := (HRc.out.kept0 hJ.1.gb) 2 _ rfl
            have f3 := (HRc.out.kept0 hJ.1.gb) 3 _ rfl
            simp only [puts, Act.put, List.setIfInBounds_toArray, List.set_cons_zero, List.set_cons_succ] at hbb
            subst hbb
            go_simp
            exact hK.out _ _ (hJ.pure R8.kept (gb_refl _ _) rfl rfl (by refine ⟨fun h => ?_, fun h => ?_, fun h => ?_⟩ <;> (exfalso; revert h; decide)))
          · intro l t w7 hJ hl hd bb hbb K hK
            have f0 := (HSc.out.kept0 hJ.1.gb) 0 _ rfl
            have f1 := (HSc.out.kept0 hJ.1.gb) 1 _ rfl
            have f2 := (HSc.out.kept0 hJ.1.gb) 2 _ rfl
            have f3 := (HSc.out.kept0 hJ.1.gb) 3 _ rfl
            have f4 := (HSc.out.kept0 hJ.1.gb) 4 _ rfl
            have f5 := (HSc.out.kept0 hJ.1.gb) 5 _ rfl
            simp only [puts, Act.put, List.setIfInBounds_toArray, List.set_cons_zero, List.set_cons_succ] at hbb
            subst hbb
            go_simp
            exact hK.out _ _ (hJ.pure R8.kept (gb_refl _ _) rfl rfl (by refine ⟨fun h => ?_, fun h => ?_, fun h => ?_⟩ <;> (exfalso; revert h; decide)))
          · intro l t w7 hJ hl hd bb hbb K hK
            simp only [puts, Act.put, List.setIfInBounds_toArray, List.set_cons_zero, List.set_cons_succ] at hbb
            subst hbb
            go_simp
            exact hK.out _ _ (hJ.pure R8.kept (gb_refl _ _) rfl rfl (by refine ⟨fun h => ?_, fun h => ?_, fun h => ?_⟩ <;> (exfalso; revert h; decide)))
          · intro l t w7 hJ hl hd bb hbb K hK
            simp only [puts, Act.put, List.setIfInBounds_toArray, List.set_cons_zero, List.set_cons_succ] at hbb
            subst hbb
            go_simp
            exact hK.out _ _ (hJ.pure R8.kept (gb_refl _ _) rfl rfl (by refine ⟨fun h => ?_, fun h => ?_, fun h => ?_⟩ <;> (exfalso; revert h; decide)))
          · intro l t w7 hJ hl hd bb hbb K hK
            simp only [puts, Act.put, List.setIfInBounds_toArray, List.set_cons_zero, List.set_cons_succ] at hbb
            subst hbb
            go_simp
            exact hK.out _ _ (hJ.any R8.kept (gb_alloc (gb_refl _ _) _) rfl rfl ⟨fun _ => ⟨_, rfl, rd_zero 8 _⟩, fun h => absurd h (by decide), fun h => absurd h (by decide)⟩)
          · intro l t w7 hJ hl hd bb hbb K hK
            obtain ⟨g7, e5, hr7⟩ := (hJ.2 5 (hd 5 (by kernel_rfl))).1 rfl
            simp only [puts, Act.put, List.setIfInBounds_toArray, List.set_cons_zero, List.set_cons_succ] at hbb
            rw [e5] at hbb
            subst hbb
            go_simp
            exact hK.out _ _ (hJ.any R8.kept (gb_refl _ _) rfl rfl ⟨fun h => absurd h (by decide), fun _ => ⟨_, rfl, hr7⟩, fun h => absurd h (by decide)⟩)
          · intro l t w7 hJ hl hd bb hbb K hK
            simp only [puts, Act.put, List.setIfInBounds_toArray, List.set_cons_zero, List.set_cons_succ] at hbb
            subst hbb
            go_simp
            exact hK.out _ _ (hJ.pure R8.kept (gb_refl _ _) rfl rfl (by refine ⟨fun h => ?_, fun h => ?_, fun h => ?_⟩ <;> (exfalso; revert h; decide)))
          · intro l t w7 hJ hl hd bb hbb K hK
            obtain ⟨g7, e6, hr7⟩ := (hJ.2 6 (hd 6 (by kernel_rfl))).2.1 rfl
            have e0 := hJ.1.val 0 _ rfl (hd 0 (by kernel_rfl))
            have e1 := hJ.1.val 1 _ rfl (hd 1 (by kernel_rfl))
            have e2 := hJ.1.val 2 _ rfl (hd 2 (by kernel_rfl))
            have e3 := hJ.1.val 3 _ rfl (hd 3 (by kernel_rfl))
            have e4 := hJ.1.val 4 _ rfl (hd 4 (by kernel_rfl))
            have e7 := hJ.1.val 7 _ rfl (hd 7 (by kernel_rfl))
            simp only [puts, Act.put, List.setIfInBounds_toArray, List.set_cons_zero, List.set_cons_succ] at hbb
            rw [e0] at hbb
            rw [e1] at hbb
            rw [e2] at hbb
            rw [e3] at hbb
            rw [e4] at hbb
            rw [e6] at hbb
            rw [e7] at hbb
            subst hbb
            go_simp
            refine (idrawmask_of (km := 6) (m := fun _ => 0) (q := resB kk dw (In1 q0 q1 q2 q3 px py 0 0 Xd0 Yd0 sx0 sy0 (-1000000000) (-1000000000) sh sw 2000000000 2000000000) (fun r c => pxM kk k2 6 o (toP dw (sz kk) p r c) (srcAt k2 sw s q0 q1 px py Xd0 Yd0 sx0 sy0 r c) (srcAt 6 2000000000 (fun _ => 0) q0 q1 0 0 Xd0 Yd0 (-1000000000) (-1000000000) r c)) p) (by have := HK.out; omega) (HD.out.1.kept0 (gb_trans HGc.out hJ.1.gb)) (HS.out.1.kept0 (gb_trans HGc.out hJ.1.gb)) hr7 (vk_dat (by have := HK.out; omega) HV.out HD.out.2.1 hn) HGS.out.2.1 (⟨by0, by omega, by omega, fun _ => rfl, .inl rfl, .inl rfl, rfl, rfl, rfl, rfl⟩ : Dat 6 0 0 0 0 (-1000000000) (-1000000000) 1000000000 1000000000 8 (fun _ => 0))
              (fun w' B B' B'' c c' c'' b b' b'' A A' A'' td ts tm h1 h2 h3 h4 h5 => mdm1_most ho (by have := HK.out; omega) (by omega) h1 h2 h3 HGD.out.1 HGS.out.1 (.inl ⟨rfl, rfl, rfl, rfl, rfl, rfl, rfl, rfl⟩) HD.out.2.1 HS.out.2.1 by0 HGS.out.2.2.2.1 h4 h5 (by have h1 := HNR.out; unfold nr at h1; unfold sm; omega) (by have h1 := HNR.out; unfold nr at h1; unfold sm; omega) (by have h1 := HNR.out; have h2 := HXY.out; unfold nr at h1 h2; unfold sm; omega) (by have h1 := HNR.out; have h2 := HXY.out; unfold nr at h1 h2; unfold sm; omega) (by have h1 := HNR.out; have h2 := HXY.out; unfold nr at h1 h2; unfold sm; omega) (by have h1 := HNR.out; have h2 := HXY.out; unfold nr at h1 h2; unfold sm; omega) (by unfold sm; omega) (by unfold sm; omega) (by have h1 := HNR.out; unfold nr at h1; unfold sm; omega) (by have h1 := HNR.out; unfold nr at h1; unfold sm; omega) (by have h1 := HNR.out; unfold nr at h1; unfold sm; omega) (by have h1 := HNR.out; unfold nr at h1; unfold sm; omega))).mono ?_
            rintro e w8 ⟨A8, c8, rfl, ho8, hg⟩
            rw [hq] at ho8
            exact hK.out _ _ (hJ.any R8.kept hg rfl rfl ⟨fun h => absurd h (by decide), fun h => absurd h (by decide), fun _ => ⟨A8, c8, rfl, ho8.low hJ.1.gb.size⟩⟩)
          · intro l t w7 hJ hl hd bb hbb K hK
            obtain ⟨A8, c8, e8, ho8⟩ := (hJ.2 8 (hd 8 (by kernel_rfl))).2.2 rfl
            simp only [puts, Act.put, List.setIfInBounds_toArray, List.set_cons_zero, List.set_cons_succ] at hbb
            rw [e8] at hbb
            subst hbb
            go_simp
            exact hK.out _ _ (hJ.any R8.kept (gb_refl _ _) rfl rfl ⟨fun h => absurd h (by decide), fun h => absurd h (by decide), fun _ => ⟨A8, c8, rfl, ho8⟩⟩)
        intro l t w9 hJ hl
        obtain ⟨A8, c8, e9, ho8⟩ := (hJ.2 9 (hl 9 (by decide))).2.2 rfl
        have hh9 := hJ.1.gb
        have HG9 := hid (gb_trans HGc.out hh9)
        have HA9 := hid (HAc.out.kept0 hh9)
        have HB9 := hid (HB4.out.kept0 hh9)
        have HO9 := hid ho8.rd
        obtain ⟨dd1, dd2⟩ := ho8.le
        have HL9 : Hid (∀ r c ch, r < dh → c < dw → ch < sz kk → q ((r * dw + c) * sz kk + ch) = keptP kk dw o b0 b1 b2 b3 Xd0 Yd0 p r c ch) := hid (fun r c ch h1 h2 h3 => by
          have g1 := HNR.out
          have g2 := HGD.out.2
          unfold nr at g1
          rw [← kept_mask (ks := k2) (s := s) (by have := HK.out; omega) ho HD.out.2.1 (by omega) (by omega) (by omega) (by omega) (HC3.out) h1 h2 h3, cutN_lt (at_lt h1 h2 h3), hq])
        clear hJ hl ho8 hq sc5 hmk hh9 zSc zAc zRc zgc
        simp only [puts, Act.put, List.setIfInBounds_toArray, List.set_cons_zero, List.set_cons_succ]
        rw [e9]
        clear e9
        obtain ⟨S, hS⟩ : ∃ S : Nat, sz kk = S := ⟨_, rfl⟩
        have hS8 : 1 ≤ S ∧ S ≤ 8 := by
          rw [← hS]
          have h := HK.out
          rcases h with rfl | rfl | rfl <;> decide
        have HSS := hid hS
        have ho1 : o ≤ 1 := ho
        have a0' := HA9.out 0 _ rfl
        have a2' := HA9.out 2 _ rfl
        have a5' := HA9.out 5 _ rfl
        go_wp2_with fail
        refine (size_c kk (by have := HK.out; omega) _).mono ?_
        rintro e wz ⟨rfl, rfl⟩
        rw [HSS.out]
        go_wp2_with fail
        clear a0' a2' a5'
        have zA := HA9.out.lt
        go_loopw [23, 22] (fun u v wr => ∃ (j i : Nat), j ≤ dh ∧ i = (j * dw) * S ∧ u = .int .i64 (Yd0 + (j : Int)) ∧ v = .int .i64 (i : Int) ∧ w9.grownBy wr none) (fun u _ _ => (Yd1 - intOf u).toNat)
        case atStart =>
          have h2 := HGD.out.2.2.2
          exact ⟨0, 0, by omega, by omega, by first | rfl | (congr 1; omega), rfl, gb_refl _ _⟩
        case round =>
          obtain ⟨j, i, hj, hi, rfl, rfl, hgr⟩ := hrel
          obtain ⟨-, gx, gy, gm, gw, gh, v1, v2, v3, v4⟩ := HGD.out
          have HR := hid hgr
          have HAr := hid (HA9.out.kept0 hgr)
          have a1r := HAr.out 1 _ rfl
          have a2r := HAr.out 2 _ rfl
          have a3r := HAr.out 3 _ rfl
          have a4r := HAr.out 4 _ rfl
          have Hi := hid hi
          clear hi hgr gm
          by_cases hlt : j < dh
          · have t1 : Yd0 + (j : Int) < Yd1 := by omega
            clear gx gy
            go_wp2_with fail
            obtain ⟨wo, hwo⟩ : ∃ wo : World, wo = wr := ⟨_, rfl⟩
            go_loopw [24, 22] (fun u v wr => ∃ (c i : Nat), c ≤ dw ∧ i = (j * dw + c) * S ∧ u = .int .i64 (Xd0 + (c : Int)) ∧ v = .int .i64 (i : Int) ∧ w9.grownBy wr none) (fun u _ _ => (Xd1 - intOf u).toNat)
            case atStart => exact ⟨0, i, by omega, Hi.out, by first | rfl | (congr 1; omega), rfl, HR.out⟩
            case round =>
              clear hwo wo a1r a2r a3r a4r HR HAr
              obtain ⟨c, i', hc, hi', rfl, rfl, hgr⟩ := hrel
              have HR := hid hgr
              have HAr := hid (HA9.out.kept0 hgr)
              have a1r := HAr.out 1 _ rfl
              have a2r := HAr.out 2 _ rfl
              have a3r := HAr.out 3 _ rfl
              have a4r := HAr.out 4 _ rfl
              obtain ⟨-, gx, gy, gm, gw, gh, v1, v2, v3, v4⟩ := HGD.out
              have Hi2 := hid hi'
              by_cases hlc : c < dw
              · have t2 : Xd0 + (c : Int) < Xd1 := by omega
                have hfit : i' + S ≤ n := by
                  have h := at_lt (kd := kk) (ch := S - 1) hlt hlc (by rw [HSS.out]; omega)
                  rw [HSS.out] at h gm
                  rw [hi', gm]; omega
                obtain ⟨i2, hi2⟩ : ∃ i2 : Nat, i' + S = i2 := ⟨_, rfl⟩
                have e3 : (i' : Int) + (S : Int) = (i2 : Int) := by omega
                have s3 : IntKind.i64.wrap (i2 : Int) = (i2 : Int) := IntWalk.i64_in _ (by omega)
                have HI2 := hid hi2
                clear hi2
                have HGX := hid (And.intro gx hlc)
                have Hfit := hid hfit
                clear hi' hgr gm gy gx hfit
                go_wp2_with fail
                obtain ⟨wo, hwo⟩ : ∃ wo : World, wo = wr := ⟨_, rfl⟩
                go_loopw [132] (fun u wr => ∃ k : Nat, k ≤ S ∧ u = .int .i64 (k : Int) ∧ w9.grownBy wr none) (fun u _ => S - (intOf u).toNat)
                case atStart => exact ⟨0, by omega, rfl, HR.out⟩
                case round =>
                  clear hwo wo a1r a2r a3r a4r HR HAr
                  obtain ⟨k, hk, rfl, hgr⟩ := hrel
                  have HR := hid hgr
                  by_cases hks : k < S
                  · obtain ⟨M, hM⟩ : ∃ M : Nat, i' + k = M := ⟨_, rfl⟩
                    have e1 : (i' : Int) + (k : Int) = (M : Int) := by omega
                    have hMn : M < n := by have := Hfit.out; omega
                    have s1 : IntKind.i64.wrap (M : Int) = (M : Int) := IntWalk.i64_in _ (by omega)
                    obtain ⟨a, rfl, hb1, hca⟩ := (HD.out.1.kept0 (gb_trans HG9.out hgr)) (by omega)
                    obtain ⟨b, rfl, hb2, hcb⟩ := (HO9.out.kept0 hgr) (by omega)
                    have i0 := hca M hMn
                    have i1 := hcb M hMn
                    have hq : q M = keptP kk dw o b0 b1 b2 b3 Xd0 Yd0 p j c k := by
                      have h := HL9.out j c k hlt HGX.out.2 (by rw [HSS.out]; exact hks)
                      rw [HSS.out, ← Hi2.out, hM] at h
                      exact h
                    have hp0 : (j * dw + c) * sz kk + k = M := by rw [HSS.out, ← Hi2.out]; exact hM
                    have a5r := (HA9.out.kept0 hgr) 5 _ rfl
                    have B := HD.out.2.1 M
                    have HBr := hid (HB9.out.kept0 hgr)
                    unfold keptP at hq
                    rw [hp0] at hq
                    obtain ⟨k1, hk1⟩ : ∃ k1 : Nat, k + 1 = k1 := ⟨_, rfl⟩
                    have k1e : (k : Int) + 1 = (k1 : Int) := by omega
                    have s4 : IntKind.i64.wrap (k1 : Int) = (k1 : Int) := IntWalk.i64_in _ (by omega)
                    have HK1 := hid hk1
                    clear hk1
                    have HM := hid hM
                    have Hk := hid hk
                    have HMn := hid hMn
                    have hop : o = 0 ∨ o = 1 := by omega
                    clear hca hcb hM hp0 hk e3 s3
                    rcases hop with rfl | rfl
                    · rw [if_neg (by rintro ⟨h, -⟩; omega)] at hq
                      rw [hq] at i1
                      obtain ⟨u, hu⟩ : ∃ u, p M = u := ⟨_, rfl⟩
                      rw [hu] at i0 i1 B
                      clear hq hu hb1 hb2 hgr
                      go_wp2_with fail
                      exact ⟨⟨k1, by have := HK1.out; omega, rfl, HR.out⟩, by have := HK1.out; simp [intOf]; omega⟩
                    · by_cases hin : InC b0 b1 b2 b3 Xd0 Yd0 j c
                      · rw [if_pos ⟨rfl, hin⟩] at hq
                        rw [hq] at i1
                        have x0 := HBr.out 0 _ rfl
                        have x1 := HBr.out 1 _ rfl
                        have x2 := HBr.out 2 _ rfl
                        have x3 := HBr.out 3 _ rfl
                        obtain ⟨u, hu⟩ : ∃ u, p M = u := ⟨_, rfl⟩
                        rw [hu] at i0 B
                        have Hin := hid hin
                        clear hq hu hin
                        go_wp2_with fail
                        refine (shas_y b0 b1 b2 b3 _ _ _ Hin.out.1 Hin.out.2.1 Hin.out.2.2.1 Hin.out.2.2.2).mono ?_
                        rintro e w8 ⟨rfl, hg8⟩
                        have i1' : w8.cell? (b.add M) = some (.int .u8 0) := (gb_cell0 hg8 (by rw [add_block]; exact hb2)).trans i1
                        have HR8 := hid (gb_trans HR.out hg8)
                        clear i0 i1 x0 x1 x2 x3 hg8 hb1 hb2 hgr
                        go_wp2_with fail
                        go_roundw
                        case rel =>
                          (repeat apply Exists.intro)
                          refine ⟨?_, rfl⟩
                          exact ⟨k1, by have := HK1.out; omega, rfl, HR8.out⟩
                        case measure =>
                          have := HK1.out
                          simp [intOf]; omega
                      · rw [if_neg (fun h => hin h.2)] at hq
                        rw [hq] at i1
                        have x0 := HBr.out 0 _ rfl
                        have x1 := HBr.out 1 _ rfl
                        have x2 := HBr.out 2 _ rfl
                        have x3 := HBr.out 3 _ rfl
                        obtain ⟨u, hu⟩ : ∃ u, p M = u := ⟨_, rfl⟩
                        rw [hu] at i0 i1 B
                        have Hin := hid hin
                        clear hq hu hin
                        go_wp2_with fail
                        refine (shas_n b0 b1 b2 b3 _ _ _ Hin.out).mono ?_
                        rintro e w8 ⟨rfl, hg8⟩
                        have i1' : w8.cell? (b.add M) = some (.int .u8 u) := (gb_cell0 hg8 (by rw [add_block]; exact hb2)).trans i1
                        have HR8 := hid (gb_trans HR.out hg8)
                        clear i0 i1 x0 x1 x2 x3 hg8 hb1 hb2 hgr
                        go_wp2_with fail
                        go_roundw
                        case rel =>
                          (repeat apply Exists.intro)
                          refine ⟨?_, rfl⟩
                          exact ⟨k1, by have := HK1.out; omega, rfl, HR8.out⟩
                        case measure =>
                          have := HK1.out
                          simp [intOf]; omega
                  · have hkS : k = S := by omega
                    clear hk
                    go_wp2_with fail
                    exact ⟨⟨c + 1, i2, by have := HGX.out.2; omega, by have h := Hi2.out; have h2 := HI2.out; rw [← Nat.add_assoc, Nat.add_mul (j * dw + c) 1]; omega, by first | rfl | (congr 1; push_cast; omega), by first | rfl | (congr 1; push_cast; omega), HR.out⟩, by have := HGX.out; simp [intOf]; omega⟩
              · have t2 : ¬ (Xd0 + (c : Int) < Xd1) := by omega
                have hcd : c = dw := by omega
                have HGY := hid gy
                clear hi' hgr gm gy gx
                go_wp2_with fail
                exact ⟨⟨j + 1, i', by omega, by have h := Hi2.out; rw [hcd] at h; rw [h, Nat.add_mul j 1 dw, Nat.one_mul], by first | rfl | (congr 1; push_cast; omega), rfl, HR.out⟩, by have := HGY.out; simp [intOf]; omega⟩
          · have t1 : ¬ (Yd0 + (j : Int) < Yd1) := by omega
            clear gx gy
            go_wp2_with fail
            go_ret
            exact ⟨rfl, gb_trans HG9.out HR.out⟩
    · go_enter Tryz.func11, Tryz.ntmps11
      go_wp2_with fail
      refine (fits_y _ hn).mono ?_
      rintro e w1 ⟨rfl, hg⟩
      have hh1 := gb_trans (a := w) (by (repeat (first | exact gb_refl _ _ | assumption | refine gb_drew ?_ | refine gb_drewN ?_ _ | refine gb_alloc ?_ _ | refine gb_setCell ?_ (.inr (by simp <;> omega)) _))) hg
      have HG1 := hid hh1
      have hS : CellsAt w1 (w.heap.size + 1 + 1) [.int .i64 ks, .int .i64 X0, .int .i64 Y0, .int .i64 X1, .int .i64 Y1, .slice As n' cs] := CellsAt.kept0 (fun i v hv => by (rcases i with _ | _ | _ | _ | _ | _ | i <;> (first | (cases hv; go_simp; done) | (simp at hv; done)))) hg
      have HS1 := hid hS
      clear hS
      have zS := HS1.out.lt
      clear hg hh1
      have s0' := HS1.out 0 _ rfl
      have s1' := HS1.out 1 _ rfl
      have s2' := HS1.out 2 _ rfl
      have s3' := HS1.out 3 _ rfl
      have s4' := HS1.out 4 _ rfl
      have s5' := HS1.out 5 _ rfl
      go_wp2_with fail
      refine (fits_n _ hn').mono ?_
      rintro e w2 ⟨rfl, hg⟩
      have hh2 := gb_trans (a := w1) (by (repeat (first | exact gb_refl _ _ | assumption | refine gb_drew ?_ | refine gb_drewN ?_ _ | refine gb_alloc ?_ _ | refine gb_setCell ?_ (.inr (by simp <;> omega)) _))) hg
      have HG2 := hid (gb_trans HG1.out hh2)
      clear zS
      have HS2 := hid (HS1.out.kept0 hh2)
      have zS := HS2.out.lt
      clear s0' s1' s2' s3' s4' s5'
      clear hg hh2
      go_wp2_with fail
      go_ret
      exact ⟨rfl, HG2.out⟩
  · go_enter Tryz.func11, Tryz.ntmps11
    go_wp2_with fail
    refine (fits_n _ hn).mono ?_
    rintro e w1 ⟨rfl, hg⟩
    have hh1 := gb_trans (a := w) (by (repeat (first | exact gb_refl _ _ | assumption | refine gb_drew ?_ | refine gb_drewN ?_ _ | refine gb_alloc ?_ _ | refine gb_setCell ?_ (.inr (by simp <;> omega)) _))) hg
    have HG1 := hid hh1
    clear hg hh1
    go_wp2_with fail
    go_ret
    exact ⟨rfl, HG1.out⟩
end Go.Proofs.YtgjpohmjkhgpfaaGreat
