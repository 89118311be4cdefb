/- The law FnOntoItself: its walk. No condition. -/
import Derived.Test.YtgjpohmjkhgpfaaGreatHLT
import Derived.Test.YtgjpohmjkhgpfaaGreatHN15
import Derived.Test.YtgjpohmjkhgpfaaGreatHN16
set_option linter.unusedSimpArgs false
set_option linter.unusedVariables false
namespace Go.Proofs.YtgjpohmjkhgpfaaGreat
open Go.RowKit

theorem cl0_small9 {q0 q1 q2 q3 px py d0 d1 d2 d3 s0 s1 s2 s3 b0 b1 b2 b3 p0 p1 k0 k1 : Int} (h : Cl0 q0 q1 q2 q3 px py 0 0 d0 d1 d2 d3 s0 s1 s2 s3 b0 b1 b2 b3 p0 p1 k0 k1) :
    -9000000000 ≤ b0 ∧ b0 ≤ 9000000000 ∧ -9000000000 ≤ b1 ∧ b1 ≤ 9000000000 ∧ -9000000000 ≤ p0 ∧ p0 ≤ 9000000000 ∧ -9000000000 ≤ p1 ∧ p1 ≤ 9000000000 := by
  obtain ⟨⟨u1, u2, u3, u4, -, -, -, -, -, -, -, -, u7, u8⟩, -, e0, e1, -, -⟩ := h
  unfold sm at *
  omega

set_option maxRecDepth 100000 in
set_option maxHeartbeats 8000000 in
theorem onto_walk {kd Xd0 Yd0 Xd1 Yd1 r0 r1 r2 r3 px py op : Int} {Ad : Option Addr} {n cd : Nat} {p : Nat → Int} (w : World) (hd : InI w Ad n cd p) :
    Calls Tryz.prog 9 #[vI kd Xd0 Yd0 Xd1 Yd1 Ad n cd, vR r0 r1 r2 r3, .int .i64 px, .int .i64 py, .int .i64 op] w fun e w' => e = .returned (.bool true) ∧ w.grownBy w' none := by
  have HD := hid hd
  clear hd
  by_cases hn : n ≤ 2147483647
  · go_enter Tryz.func9, Tryz.ntmps9
    go_wp2_with fail
    refine (fits_y _ hn).mono ?_
    rintro e w1 ⟨rfl, hg⟩
    have hh1 := gb_trans (a := w) (by (repeat (first | exact gb_refl _ _ | assumption | refine gb_drew ?_ | refine gb_drewN ?_ _ | refine gb_alloc ?_ _ | refine gb_setCell ?_ (.inr (by simp <;> omega)) _))) hg
    have HG1 := hid hh1
    have hA : CellsAt w1 w.heap.size [.int .i64 kd, .int .i64 Xd0, .int .i64 Yd0, .int .i64 Xd1, .int .i64 Yd1, .slice Ad n cd] := CellsAt.kept0 (fun i v hv => by (rcases i with _ | _ | _ | _ | _ | _ | i <;> (first | (cases hv; go_simp; done) | (simp at hv; done)))) hg
    have HA1 := hid hA
    clear hA
    have zA := HA1.out.lt
    have hR : CellsAt w1 (w.heap.size + 1) [.int .i64 r0, .int .i64 r1, .int .i64 r2, .int .i64 r3] := CellsAt.kept0 (fun i v hv => by (rcases i with _ | _ | _ | _ | i <;> (first | (cases hv; go_simp; done) | (simp at hv; done)))) hg
    have HR1 := hid hR
    clear hR
    have zR := HR1.out.lt
    clear hg hh1
    have r0' := HR1.out 0 _ rfl
    have r1' := HR1.out 1 _ rfl
    have r2' := HR1.out 2 _ rfl
    have r3' := HR1.out 3 _ rfl
    go_wp2_with fail
    refine (lrect_c r0 r1 r2 r3 _).mono ?_
    rintro e w2 ⟨b, q0, q1, q2, q3, rfl, hb, hg⟩
    have hh2 := gb_trans (a := w1) (by (repeat (first | exact gb_refl _ _ | assumption | refine gb_drew ?_ | refine gb_drewN ?_ _ | refine gb_alloc ?_ _ | refine gb_setCell ?_ (.inr (by simp <;> omega)) _))) hg
    have HG2 := hid (gb_trans HG1.out hh2)
    clear zA zR
    have HA2 := hid (HA1.out.kept0 hh2)
    have zA := HA2.out.lt
    have HR2 := hid (HR1.out.kept0 hh2)
    have zR := HR2.out.lt
    clear r0' r1' r2' r3'
    clear hg hh2
    cases b
    · go_wp2_with fail
      go_ret
      exact ⟨rfl, gb_trans HG2.out (by (repeat (first | exact gb_refl _ _ | assumption | refine gb_drew ?_ | refine gb_drewN ?_ _ | refine gb_alloc ?_ _ | refine gb_setCell ?_ (.inr (by simp <;> omega)) _)))⟩
    obtain ⟨hr, rfl, rfl, rfl, rfl⟩ := hb rfl
    have HNR := hid hr
    clear hr hb
    have a0' := HA2.out 0 _ rfl
    have a1' := HA2.out 1 _ rfl
    have a2' := HA2.out 2 _ rfl
    have a3' := HA2.out 3 _ rfl
    have a4' := HA2.out 4 _ rfl
    have a5' := HA2.out 5 _ rfl
    go_wp2_with fail
    refine (target_c _ (HD.out.1.kept0 (gb_trans HG2.out (by (repeat (first | exact gb_refl _ _ | assumption | refine gb_drew ?_ | refine gb_drewN ?_ _ | refine gb_alloc ?_ _ | refine gb_setCell ?_ (.inr (by simp <;> omega)) _))))) HD.out.2.1 hn HD.out.2.2.2.1 HD.out.2.2.2.2).mono ?_
    rintro e w3 ⟨b, rfl, hb, hg⟩
    have hh3 := gb_trans (a := w2) (by (repeat (first | exact gb_refl _ _ | assumption | refine gb_drew ?_ | refine gb_drewN ?_ _ | refine gb_alloc ?_ _ | refine gb_setCell ?_ (.inr (by simp <;> omega)) _))) hg
    have HG3 := hid (gb_trans HG2.out hh3)
    clear zA zR
    have HA3 := hid (HA2.out.kept0 hh3)
    have zA := HA3.out.lt
    have HR3 := hid (HR2.out.kept0 hh3)
    have zR := HR3.out.lt
    clear a0' a1' a2' a3' a4' a5'
    have hT : CellsAt w3 w2.heap.size [.int .i64 q0, .int .i64 q1, .int .i64 q2, .int .i64 q3] := CellsAt.kept0 (fun i v hv => by (rcases i with _ | _ | _ | _ | i <;> (first | (cases hv; go_simp; done) | (simp at hv; done)))) hg
    have HT3 := hid hT
    clear hT
    have zT := HT3.out.lt
    clear hg hh3
    cases b
    · go_wp2_with fail
      go_ret
      exact ⟨rfl, gb_trans HG3.out (by (repeat (first | exact gb_refl _ _ | assumption | refine gb_drew ?_ | refine gb_drewN ?_ _ | refine gb_alloc ?_ _ | refine gb_setCell ?_ (.inr (by simp <;> omega)) _)))⟩
    obtain ⟨kk, rfl, hkk, hv⟩ := hb rfl
    have HV := hid hv
    have HK := hid hkk
    clear hb hv hkk
    go_wp2_with fail
    refine (fine_c (n := 2) (l := fun i => if i = 0 then px else py) _ (fun i hi => ?_) (by omega)).mono ?_
    · have hi' : i = 0 ∨ i = 1 := by omega
      rcases hi' with rfl | rfl <;> go_simp
    rintro e w6 ⟨⟨b, rfl, hb⟩, rfl⟩
    cases b
    · go_wp2_with fail
      go_ret
      exact ⟨rfl, gb_trans HG3.out (by (repeat (first | exact gb_refl _ _ | assumption | refine gb_drew ?_ | refine gb_drewN ?_ _ | refine gb_alloc ?_ _ | refine gb_setCell ?_ (.inr (by simp <;> omega)) _)))⟩
    have hx : nr px := hb rfl 0 (by omega)
    have hy : nr py := hb rfl 1 (by omega)
    have HXY := hid (And.intro hx hy)
    clear hb hx hy
    obtain ⟨o, ho, hand⟩ := and1 op
    obtain ⟨dh, dw, GD, gx, gy, gm, gw, gh, v1, v2, v3, v4⟩ := vk_geo (by have := HK.out; omega) HV.out
    have HGD := hid (And.intro GD (And.intro gx (And.intro gy (And.intro gm (And.intro gw (And.intro gh (And.intro v1 (And.intro v2 (And.intro v3 v4)))))))))
    obtain ⟨hk6, hpm, sh, sw, sx0, sy0, sx1, sy1, GS, DS, AS, t1, t2, hX, hB⟩ := vk_all HV.out HD.out.2.1 HD.out.2.2.1 hn
    have HPM := hid hpm
    have HC0 : Hid (∃ b0 b1 b2 b3 p0 p1 k0 k1, Cl0 q0 q1 q2 q3 px py 0 0 Xd0 Yd0 Xd1 Yd1 Xd0 Yd0 Xd1 Yd1 b0 b1 b2 b3 p0 p1 k0 k1) := hid (by
      obtain ⟨hr0, hr1, hr2, hr3⟩ := HNR.out
      obtain ⟨hx, hy⟩ := HXY.out
      unfold nr at hr0 hr1 hr2 hr3 hx hy
      exact cl0_ex (by unfold sm; omega) (by unfold sm; omega) (by unfold sm; omega) (by unfold sm; omega) (by unfold sm; omega) (by unfold sm; omega) (by unfold sm; omega) (by unfold sm; omega) (by unfold sm; omega) (by unfold sm; omega) (by unfold sm; omega) (by unfold sm; omega) (by omega) (by omega) (by omega) (by omega))
    obtain ⟨b0, b1, b2, b3, p0, p1, k0, k1, hC⟩ := HC0.out
    have HC := hid hC
    clear GD gx gy gm gw gh v1 v2 v3 v4 GS DS AS hpm hX hC t1 t2 hB
    go_upto_region 7 with fail
    refine wp_region_inv (JV w3 [some (vI kk Xd0 Yd0 Xd1 Yd1 Ad n cd), some (vR Xd0 Yd0 Xd1 Yd1), some (vR q0 q1 q2 q3), some (vI kk Xd0 Yd0 Xd1 Yd1 Ad n cd), some (vR Xd0 Yd0 Xd1 Yd1), some (.int .i64 px), some (.int .i64 py), some (vR 0 0 0 0), some (.tuple #[vR b0 b1 b2 b3, vP p0 p1, vP k0 k1]), some (.tuple #[vR b0 b1 b2 b3, vP p0 p1, vP k0 k1]), some (vR b0 b1 b2 b3), some (vP p0 p1), some (vP k0 k1), none, none, none, none, none, none] [(13, 16, [.int .i64 b0, .int .i64 b1, .int .i64 b2, .int .i64 b3]), (14, 17, [.int .i64 p0, .int .i64 p1]), (15, 18, [.int .i64 k0, .int .i64 k1])]) (fun _ => undef) (by kernel_rfl) (by kernel_rfl) [(0, 41), (1, 42), (2, 43), (3, 44), (4, 45), (5, 46), (6, 47), (7, 48), (8, 49), (9, 40), (10, 50), (11, 51), (12, 52), (13, 13), (14, 14), (15, 15)] (by kernel_rfl) (JV.start (by (repeat (first | exact gb_refl _ _ | assumption | refine gb_drew ?_ | refine gb_drewN ?_ _ | refine gb_alloc ?_ _ | refine gb_setCell ?_ (.inr (by simp <;> omega)) _)))) ?_ ?_
    · refine Steps'.cons [] (by kernel_rfl) ?_ (Steps'.cons [(0, 41)] (by kernel_rfl) ?_ (Steps'.cons [] (by kernel_rfl) ?_ (Steps'.cons [] (by kernel_rfl) ?_ (Steps'.cons [(3, 44)] (by kernel_rfl) ?_ (Steps'.cons [] (by kernel_rfl) ?_ (Steps'.cons [] (by kernel_rfl) ?_ (Steps'.cons [] (by kernel_rfl) ?_ (Steps'.cons [(1, 42), (2, 43), (4, 45), (5, 46), (6, 47), (7, 48)] (by kernel_rfl) ?_ (Steps'.cons [(8, 49)] (by kernel_rfl) ?_ (Steps'.cons [(9, 40)] (by kernel_rfl) ?_ (Steps'.cons [(9, 40)] (by kernel_rfl) ?_ (Steps'.cons [(9, 40)] (by kernel_rfl) ?_ (Steps'.cons [] (by kernel_rfl) ?_ (Steps'.cons [] (by kernel_rfl) ?_ (Steps'.cons [] (by kernel_rfl) ?_ (Steps'.cons [(10, 50), (13, 13)] (by kernel_rfl) ?_ (Steps'.cons [(11, 51), (14, 14)] (by kernel_rfl) ?_ (Steps'.cons [(12, 52), (15, 15)] (by kernel_rfl) ?_ (Steps'.nil)))))))))))))))))))
      · intro l t w7 hJ hl hd bb hbb K hK
        have f0 := (HA3.out.kept0 hJ.gb) 0 _ rfl
        have f1 := (HA3.out.kept0 hJ.gb) 1 _ rfl
        have f2 := (HA3.out.kept0 hJ.gb) 2 _ rfl
        have f3 := (HA3.out.kept0 hJ.gb) 3 _ rfl
        have f4 := (HA3.out.kept0 hJ.gb) 4 _ rfl
        have f5 := (HA3.out.kept0 hJ.gb) 5 _ rfl
        simp only [puts, Act.put, List.setIfInBounds_toArray, List.set_cons_zero, List.set_cons_succ] at hbb
        subst hbb
        go_simp
        exact hK.out _ _ (hJ.pure (gb_refl _ _) rfl rfl)
      · intro l t w7 hJ hl hd bb hbb K hK
        have e0 := hJ.val 0 _ rfl (hd 0 (by kernel_rfl))
        simp only [puts, Act.put, List.setIfInBounds_toArray, List.set_cons_zero, List.set_cons_succ] at hbb
        rw [e0] at hbb
        subst hbb
        go_simp
        refine (sbounds_k (vk_dat (by have := HK.out; omega) HV.out HD.out.2.1 hn) Ad n cd _).mono ?_
        rintro e w8 ⟨rfl, hg⟩
        exact hK.out _ _ (hJ.pure hg rfl rfl)
      · intro l t w7 hJ hl hd bb hbb K hK
        have f0 := (HT3.out.kept0 hJ.gb) 0 _ rfl
        have f1 := (HT3.out.kept0 hJ.gb) 1 _ rfl
        have f2 := (HT3.out.kept0 hJ.gb) 2 _ rfl
        have f3 := (HT3.out.kept0 hJ.gb) 3 _ rfl
        simp only [puts, Act.put, List.setIfInBounds_toArray, List.set_cons_zero, List.set_cons_succ] at hbb
        subst hbb
        go_simp
        exact hK.out _ _ (hJ.pure (gb_refl _ _) rfl rfl)
      · intro l t w7 hJ hl hd bb hbb K hK
        have f0 := (HA3.out.kept0 hJ.gb) 0 _ rfl
        have f1 := (HA3.out.kept0 hJ.gb) 1 _ rfl
        have f2 := (HA3.out.kept0 hJ.gb) 2 _ rfl
        have f3 := (HA3.out.kept0 hJ.gb) 3 _ rfl
        have f4 := (HA3.out.kept0 hJ.gb) 4 _ rfl
        have f5 := (HA3.out.kept0 hJ.gb) 5 _ rfl
        simp only [puts, Act.put, List.setIfInBounds_toArray, List.set_cons_zero, List.set_cons_succ] at hbb
        subst hbb
        go_simp
        exact hK.out _ _ (hJ.pure (gb_refl _ _) rfl rfl)
      · intro l t w7 hJ hl hd bb hbb K hK
        have e3 := hJ.val 3 _ rfl (hd 3 (by kernel_rfl))
        simp only [puts, Act.put, List.setIfInBounds_toArray, List.set_cons_zero, List.set_cons_succ] at hbb
        rw [e3] at hbb
        subst hbb
        go_simp
        refine (sbounds_k (vk_dat (by have := HK.out; omega) HV.out HD.out.2.1 hn) Ad n cd _).mono ?_
        rintro e w8 ⟨rfl, hg⟩
        exact hK.out _ _ (hJ.pure hg rfl rfl)
      · intro l t w7 hJ hl hd bb hbb K hK
        simp only [puts, Act.put, List.setIfInBounds_toArray, List.set_cons_zero, List.set_cons_succ] at hbb
        subst hbb
        go_simp
        exact hK.out _ _ (hJ.pure (gb_refl _ _) rfl rfl)
      · intro l t w7 hJ hl hd bb hbb K hK
        simp only [puts, Act.put, List.setIfInBounds_toArray, List.set_cons_zero, List.set_cons_succ] at hbb
        subst hbb
        go_simp
        exact hK.out _ _ (hJ.pure (gb_refl _ _) rfl rfl)
      · intro l t w7 hJ hl hd bb hbb K hK
        simp only [puts, Act.put, List.setIfInBounds_toArray, List.set_cons_zero, List.set_cons_succ] at hbb
        subst hbb
        go_simp
        exact hK.out _ _ (hJ.pure (gb_refl _ _) rfl rfl)
      · intro l t w7 hJ hl hd bb hbb K hK
        have e1 := hJ.val 1 _ rfl (hd 1 (by kernel_rfl))
        have e2 := hJ.val 2 _ rfl (hd 2 (by kernel_rfl))
        have e4 := hJ.val 4 _ rfl (hd 4 (by kernel_rfl))
        have e5 := hJ.val 5 _ rfl (hd 5 (by kernel_rfl))
        have e6 := hJ.val 6 _ rfl (hd 6 (by kernel_rfl))
        have e7 := hJ.val 7 _ rfl (hd 7 (by kernel_rfl))
        simp only [puts, Act.put, List.setIfInBounds_toArray, List.set_cons_zero, List.set_cons_succ] at hbb
        rw [e1] at hbb
        rw [e2] at hbb
        rw [e4] at hbb
        rw [e5] at hbb
        rw [e6] at hbb
        rw [e7] at hbb
        subst hbb
        go_simp
        refine (sclip0_c _ HC.out).mono ?_
        rintro e w8 ⟨rfl, hg⟩
        exact hK.out _ _ (hJ.pure hg rfl rfl)
      · intro l t w7 hJ hl hd bb hbb K hK
        have e8 := hJ.val 8 _ rfl (hd 8 (by kernel_rfl))
        simp only [puts, Act.put, List.setIfInBounds_toArray, List.set_cons_zero, List.set_cons_succ] at hbb
        rw [e8] at hbb
        subst hbb
        go_simp
        exact hK.out _ _ (hJ.pure (gb_refl _ _) rfl rfl)
      · intro l t w7 hJ hl hd bb hbb K hK
        have e9 := hJ.val 9 _ rfl (hd 9 (by kernel_rfl))
        simp only [puts, Act.put, List.setIfInBounds_toArray, List.set_cons_zero, List.set_cons_succ] at hbb
        rw [e9] at hbb
        subst hbb
        go_simp
        exact hK.out _ _ (hJ.pure (gb_refl _ _) rfl rfl)
      · intro l t w7 hJ hl hd bb hbb K hK
        have e9 := hJ.val 9 _ rfl (hd 9 (by kernel_rfl))
        simp only [puts, Act.put, List.setIfInBounds_toArray, List.set_cons_zero, List.set_cons_succ] at hbb
        rw [e9] at hbb
        subst hbb
        go_simp
        exact hK.out _ _ (hJ.pure (gb_refl _ _) rfl rfl)
      · intro l t w7 hJ hl hd bb hbb K hK
        have e9 := hJ.val 9 _ rfl (hd 9 (by kernel_rfl))
        simp only [puts, Act.put, List.setIfInBounds_toArray, List.set_cons_zero, List.set_cons_succ] at hbb
        rw [e9] at hbb
        subst hbb
        go_simp
        exact hK.out _ _ (hJ.pure (gb_refl _ _) rfl rfl)
      · intro l t w7 hJ hl hd bb hbb K hK
        simp only [puts, Act.put, List.setIfInBounds_toArray, List.set_cons_zero, List.set_cons_succ] at hbb
        subst hbb
        go_simp
        exact hK.out _ _ (hJ.alloc (vsOK3 rfl) (C := #[.int .i64 0, .int .i64 0, .int .i64 0, .int .i64 0]) (s := 16) (vals := [.int .i64 b0, .int .i64 b1, .int .i64 b2, .int .i64 b3]) (by simp) rfl hl rfl rfl)
      · intro l t w7 hJ hl hd bb hbb K hK
        simp only [puts, Act.put, List.setIfInBounds_toArray, List.set_cons_zero, List.set_cons_succ] at hbb
        subst hbb
        go_simp
        exact hK.out _ _ (hJ.alloc (vsOK3 rfl) (C := #[.int .i64 0, .int .i64 0]) (s := 17) (vals := [.int .i64 p0, .int .i64 p1]) (by simp) rfl hl rfl rfl)
      · intro l t w7 hJ hl hd bb hbb K hK
        simp only [puts, Act.put, List.setIfInBounds_toArray, List.set_cons_zero, List.set_cons_succ] at hbb
        subst hbb
        go_simp
        exact hK.out _ _ (hJ.alloc (vsOK3 rfl) (C := #[.int .i64 0, .int .i64 0]) (s := 18) (vals := [.int .i64 k0, .int .i64 k1]) (by simp) rfl hl rfl rfl)
      · intro l t w7 hJ hl hd bb hbb K hK
        obtain ⟨g, eg, -, -, hc⟩ := hJ.open (a := 13) (s := 16) (vals := [.int .i64 b0, .int .i64 b1, .int .i64 b2, .int .i64 b3]) (by simp) (hd 13 (by kernel_rfl))
        obtain ⟨⟨u0, c0⟩, z0⟩ := hc 0 (by simp)
        obtain ⟨⟨u1, c1⟩, z1⟩ := hc 1 (by simp)
        obtain ⟨⟨u2, c2⟩, z2⟩ := hc 2 (by simp)
        obtain ⟨⟨u3, c3⟩, z3⟩ := hc 3 (by simp)
        have e10 := hJ.val 10 _ rfl (hd 10 (by kernel_rfl))
        simp only [puts, Act.put, List.setIfInBounds_toArray, List.set_cons_zero, List.set_cons_succ] at hbb
        rw [e10] at hbb
        rw [eg] at hbb
        subst hbb
        go_simp
        obtain ⟨y1, y2, y3⟩ := st4 c0 c1 c2 c3
        exact hK.out undef _ (hJ.store (u := undef) (vsOK3 rfl) (a := 13) (vals := [.int .i64 b0, .int .i64 b1, .int .i64 b2, .int .i64 b3]) (by simp) rfl (hd 13 (by kernel_rfl)) eg y1 y2 y3)
      · intro l t w7 hJ hl hd bb hbb K hK
        obtain ⟨g, eg, -, -, hc⟩ := hJ.open (a := 14) (s := 17) (vals := [.int .i64 p0, .int .i64 p1]) (by simp) (hd 14 (by kernel_rfl))
        obtain ⟨⟨u0, c0⟩, z0⟩ := hc 0 (by simp)
        obtain ⟨⟨u1, c1⟩, z1⟩ := hc 1 (by simp)
        have e11 := hJ.val 11 _ rfl (hd 11 (by kernel_rfl))
        simp only [puts, Act.put, List.setIfInBounds_toArray, List.set_cons_zero, List.set_cons_succ] at hbb
        rw [e11] at hbb
        rw [eg] at hbb
        subst hbb
        go_simp
        obtain ⟨y1, y2, y3⟩ := st2 c0 c1
        exact hK.out undef _ (hJ.store (u := undef) (vsOK3 rfl) (a := 14) (vals := [.int .i64 p0, .int .i64 p1]) (by simp) rfl (hd 14 (by kernel_rfl)) eg y1 y2 y3)
      · intro l t w7 hJ hl hd bb hbb K hK
        obtain ⟨g, eg, -, -, hc⟩ := hJ.open (a := 15) (s := 18) (vals := [.int .i64 k0, .int .i64 k1]) (by simp) (hd 15 (by kernel_rfl))
        obtain ⟨⟨u0, c0⟩, z0⟩ := hc 0 (by simp)
        obtain ⟨⟨u1, c1⟩, z1⟩ := hc 1 (by simp)
        have e12 := hJ.val 12 _ rfl (hd 12 (by kernel_rfl))
        simp only [puts, Act.put, List.setIfInBounds_toArray, List.set_cons_zero, List.set_cons_succ] at hbb
        rw [e12] at hbb
        rw [eg] at hbb
        subst hbb
        go_simp
        obtain ⟨y1, y2, y3⟩ := st2 c0 c1
        exact hK.out undef _ (hJ.store (u := undef) (vsOK3 rfl) (a := 15) (vals := [.int .i64 k0, .int .i64 k1]) (by simp) rfl (hd 15 (by kernel_rfl)) eg y1 y2 y3)
    intro l t wc hJ hl
    obtain ⟨g, e13, -, -, hgc⟩ := hJ.var (a := 13) (s := 16) (vals := [.int .i64 b0, .int .i64 b1, .int .i64 b2, .int .i64 b3]) (by simp) (hl 13 (by decide)) (hl 16 (by decide))
    obtain ⟨h, e14, -, -, hhc⟩ := hJ.var (a := 14) (s := 17) (vals := [.int .i64 p0, .int .i64 p1]) (by simp) (hl 14 (by decide)) (hl 17 (by decide))
    obtain ⟨i9, e15, -, -, hic⟩ := hJ.var (a := 15) (s := 18) (vals := [.int .i64 k0, .int .i64 k1]) (by simp) (hl 15 (by decide)) (hl 18 (by decide))
    have hgw := hJ.gb
    have HB4 : Hid (CellsAt wc g [.int .i64 b0, .int .i64 b1, .int .i64 b2, .int .i64 b3]) := hid hgc
    have HP2 : Hid (CellsAt wc h [.int .i64 p0, .int .i64 p1]) := hid hhc
    have HAc := hid (HA3.out.kept0 hgw)
    have HRc := hid (HR3.out.kept0 hgw)
    have HGc := hid (gb_trans HG3.out hgw)
    clear hJ hl hgc hhc hic hgw
    simp only [puts, Act.put, List.setIfInBounds_toArray, List.set_cons_zero, List.set_cons_succ]
    rw [e13, e14, e15]
    clear e13 e14 e15
    obtain ⟨q, hq⟩ : ∃ q, cutN n (resB kk dw (In0 q0 q1 q2 q3 px py Xd0 Yd0 Xd0 Yd0 dh dw) (fun r c => px0 kk kk o (toP dw (sz kk) p r c) (srcAt kk dw p q0 q1 px py Xd0 Yd0 Xd0 Yd0 r c)) p) = q := ⟨_, rfl⟩
    have HQ := hid hq
    clear hq
    go_upto_region 8 with fail
    refine wp_region_inv (JO wc [some (vI kk Xd0 Yd0 Xd1 Yd1 Ad n cd), some (vI kk Xd0 Yd0 Xd1 Yd1 Ad n cd), some (vR q0 q1 q2 q3), some (.int .i64 px), some (.int .i64 py), some (.int .i64 o), none, some (vR b0 b1 b2 b3), some (vP p0 p1), some (vP 0 0), some (vI kk Xd0 Yd0 Xd1 Yd1 Ad n cd), some (.int .i64 o), some (.bool true), some (.bool true)] [] 6 wc.heap.size n q) (fun _ => undef) (by kernel_rfl) (by kernel_rfl) [(0, 53), (1, 54), (2, 55), (3, 56), (4, 57), (5, 58), (6, 59), (7, 60), (8, 61), (9, 62), (10, 63), (11, 64), (12, 65), (13, 10)] (by kernel_rfl) (JO.start (by (repeat (first | exact gb_refl _ _ | assumption | refine gb_drew ?_ | refine gb_drewN ?_ _ | refine gb_alloc ?_ _ | refine gb_setCell ?_ (.inr (by simp <;> omega)) _)))) ?_ ?_
    · refine Steps'.cons [] (by kernel_rfl) ?_ (Steps'.cons [] (by kernel_rfl) ?_ (Steps'.cons [] (by kernel_rfl) ?_ (Steps'.cons [] (by kernel_rfl) ?_ (Steps'.cons [] (by kernel_rfl) ?_ (Steps'.cons [] (by kernel_rfl) ?_ (Steps'.cons [(1, 54), (2, 55), (3, 56), (4, 57), (5, 58)] (by kernel_rfl) ?_ (Steps'.cons [] (by kernel_rfl) ?_ (Steps'.cons [] (by kernel_rfl) ?_ (Steps'.cons [] (by kernel_rfl) ?_ (Steps'.cons [] (by kernel_rfl) ?_ (Steps'.cons [] (by kernel_rfl) ?_ (Steps'.cons [(0, 53), (6, 59), (7, 60), (8, 61), (9, 62), (10, 63), (11, 64)] (by kernel_rfl) ?_ (Steps'.cons [(12, 65)] (by kernel_rfl) ?_ (Steps'.nil))))))))))))))
      · intro l t w7 hJ hl hd bb hbb K hK
        have f0 := (HAc.out.kept0 hJ.1.gb) 0 _ rfl
        have f1 := (HAc.out.kept0 hJ.1.gb) 1 _ rfl
        have f2 := (HAc.out.kept0 hJ.1.gb) 2 _ rfl
        have f3 := (HAc.out.kept0 hJ.1.gb) 3 _ rfl
        have f4 := (HAc.out.kept0 hJ.1.gb) 4 _ rfl
        have f5 := (HAc.out.kept0 hJ.1.gb) 5 _ rfl
        simp only [puts, Act.put, List.setIfInBounds_toArray, List.set_cons_zero, List.set_cons_succ] at hbb
        subst hbb
        go_simp
        exact hK.out _ _ (hJ.pure (gb_refl _ _) rfl rfl rfl)
      · intro l t w7 hJ hl hd bb hbb K hK
        have f0 := (HAc.out.kept0 hJ.1.gb) 0 _ rfl
        have f1 := (HAc.out.kept0 hJ.1.gb) 1 _ rfl
        have f2 := (HAc.out.kept0 hJ.1.gb) 2 _ rfl
        have f3 := (HAc.out.kept0 hJ.1.gb) 3 _ rfl
        have f4 := (HAc.out.kept0 hJ.1.gb) 4 _ rfl
        have f5 := (HAc.out.kept0 hJ.1.gb) 5 _ rfl
        simp only [puts, Act.put, List.setIfInBounds_toArray, List.set_cons_zero, List.set_cons_succ] at hbb
        subst hbb
        go_simp
        exact hK.out _ _ (hJ.pure (gb_refl _ _) rfl rfl rfl)
      · intro l t w7 hJ hl hd bb hbb K hK
        have f0 := (HRc.out.kept0 hJ.1.gb) 0 _ rfl
        have f1 := (HRc.out.kept0 hJ.1.gb) 1 _ rfl
        have f2 := (HRc.out.kept0 hJ.1.gb) 2 _ rfl
        have f3 := (HRc.out.kept0 hJ.1.gb) 3 _ rfl
        simp only [puts, Act.put, List.setIfInBounds_toArray, List.set_cons_zero, List.set_cons_succ] at hbb
        subst hbb
        go_simp
        exact hK.out _ _ (hJ.pure (gb_refl _ _) rfl rfl rfl)
      · intro l t w7 hJ hl hd bb hbb K hK
        simp only [puts, Act.put, List.setIfInBounds_toArray, List.set_cons_zero, List.set_cons_succ] at hbb
        subst hbb
        go_simp
        exact hK.out _ _ (hJ.pure (gb_refl _ _) rfl rfl rfl)
      · intro l t w7 hJ hl hd bb hbb K hK
        simp only [puts, Act.put, List.setIfInBounds_toArray, List.set_cons_zero, List.set_cons_succ] at hbb
        subst hbb
        go_simp
        exact hK.out _ _ (hJ.pure (gb_refl _ _) rfl rfl rfl)
      · intro l t w7 hJ hl hd bb hbb K hK
        simp only [puts, Act.put, List.setIfInBounds_toArray, List.set_cons_zero, List.set_cons_succ] at hbb
        subst hbb
        go_simp
        exact hK.out _ _ (hJ.pure (gb_refl _ _) rfl rfl rfl)
      · intro l t w7 hJ hl hd bb hbb K hK
        have e1 := hJ.1.val 1 _ rfl (hd 1 (by kernel_rfl))
        have e2 := hJ.1.val 2 _ rfl (hd 2 (by kernel_rfl))
        have e3 := hJ.1.val 3 _ rfl (hd 3 (by kernel_rfl))
        have e4 := hJ.1.val 4 _ rfl (hd 4 (by kernel_rfl))
        have e5 := hJ.1.val 5 _ rfl (hd 5 (by kernel_rfl))
        simp only [puts, Act.put, List.setIfInBounds_toArray, List.set_cons_zero, List.set_cons_succ] at hbb
        rw [e1] at hbb
        rw [e2] at hbb
        rw [e3] at hbb
        rw [e4] at hbb
        rw [e5] at hbb
        subst hbb
        go_simp
        refine (isame_of (q := resB kk dw (In0 q0 q1 q2 q3 px py Xd0 Yd0 Xd0 Yd0 dh dw) (fun r c => px0 kk kk o (toP dw (sz kk) p r c) (srcAt kk dw p q0 q1 px py Xd0 Yd0 Xd0 Yd0 r c)) p) (by have := HK.out; omega) (HD.out.1.kept0 (gb_trans HGc.out hJ.1.gb)) (vk_dat (by have := HK.out; omega) HV.out HD.out.2.1 hn)
          (fun w' B c b A td h1 => mdm_self ho (by have := HK.out; omega) h1 HGD.out.1 HD.out.2.1 HPM.out (by have h1 := HNR.out; unfold nr at h1; unfold sm; omega) (by have h1 := HNR.out; unfold nr at h1; unfold sm; omega) (by have h1 := HNR.out; have h2 := HXY.out; unfold nr at h1 h2; unfold sm; omega) (by have h1 := HNR.out; have h2 := HXY.out; unfold nr at h1 h2; unfold sm; omega) (by have h1 := HNR.out; have h2 := HXY.out; unfold nr at h1 h2; unfold sm; omega) (by have h1 := HNR.out; have h2 := HXY.out; unfold nr at h1 h2; unfold sm; omega))).mono ?_
        rintro e w8 ⟨A8, c8, rfl, ho8, hg⟩
        exact hK.out _ _ (hJ.own hg rfl rfl ((ho8.low hJ.1.gb.size).congr (fun i hi => by rw [← HQ.out]; exact (cutN_lt hi).symm)))
      · intro l t w7 hJ hl hd bb hbb K hK
        have f0 := (HB4.out.kept0 hJ.1.gb) 0 _ rfl
        have f1 := (HB4.out.kept0 hJ.1.gb) 1 _ rfl
        have f2 := (HB4.out.kept0 hJ.1.gb) 2 _ rfl
        have f3 := (HB4.out.kept0 hJ.1.gb) 3 _ rfl
        simp only [puts, Act.put, List.setIfInBounds_toArray, List.set_cons_zero, List.set_cons_succ] at hbb
        subst hbb
        go_simp
        exact hK.out _ _ (hJ.pure (gb_refl _ _) rfl rfl rfl)
      · intro l t w7 hJ hl hd bb hbb K hK
        have f0 := (HP2.out.kept0 hJ.1.gb) 0 _ rfl
        have f1 := (HP2.out.kept0 hJ.1.gb) 1 _ rfl
        simp only [puts, Act.put, List.setIfInBounds_toArray, List.set_cons_zero, List.set_cons_succ] at hbb
        subst hbb
        go_simp
        exact hK.out _ _ (hJ.pure (gb_refl _ _) rfl rfl rfl)
      · intro l t w7 hJ hl hd bb hbb K hK
        simp only [puts, Act.put, List.setIfInBounds_toArray, List.set_cons_zero, List.set_cons_succ] at hbb
        subst hbb
        go_simp
        exact hK.out _ _ (hJ.pure (gb_refl _ _) rfl rfl rfl)
      · intro l t w7 hJ hl hd bb hbb K hK
        have f0 := (HAc.out.kept0 hJ.1.gb) 0 _ rfl
        have f1 := (HAc.out.kept0 hJ.1.gb) 1 _ rfl
        have f2 := (HAc.out.kept0 hJ.1.gb) 2 _ rfl
        have f3 := (HAc.out.kept0 hJ.1.gb) 3 _ rfl
        have f4 := (HAc.out.kept0 hJ.1.gb) 4 _ rfl
        have f5 := (HAc.out.kept0 hJ.1.gb) 5 _ rfl
        simp only [puts, Act.put, List.setIfInBounds_toArray, List.set_cons_zero, List.set_cons_succ] at hbb
        subst hbb
        go_simp
        exact hK.out _ _ (hJ.pure (gb_refl _ _) rfl rfl rfl)
      · intro l t w7 hJ hl hd bb hbb K hK
        simp only [puts, Act.put, List.setIfInBounds_toArray, List.set_cons_zero, List.set_cons_succ] at hbb
        subst hbb
        go_simp
        exact hK.out _ _ (hJ.pure (gb_refl _ _) rfl rfl rfl)
      · intro l t w7 hJ hl hd bb hbb K hK
        obtain ⟨A8, c8, e6, ho8⟩ := hJ.2 (hd 6 (by kernel_rfl))
        have e0 := hJ.1.val 0 _ rfl (hd 0 (by kernel_rfl))
        have e7 := hJ.1.val 7 _ rfl (hd 7 (by kernel_rfl))
        have e8 := hJ.1.val 8 _ rfl (hd 8 (by kernel_rfl))
        have e9 := hJ.1.val 9 _ rfl (hd 9 (by kernel_rfl))
        have e10 := hJ.1.val 10 _ rfl (hd 10 (by kernel_rfl))
        have e11 := hJ.1.val 11 _ rfl (hd 11 (by kernel_rfl))
        simp only [puts, Act.put, List.setIfInBounds_toArray, List.set_cons_zero, List.set_cons_succ] at hbb
        rw [e0] at hbb
        rw [e6] at hbb
        rw [e7] at hbb
        rw [e8] at hbb
        rw [e9] at hbb
        rw [e10] at hbb
        rw [e11] at hbb
        subst hbb
        go_simp
        obtain ⟨gq1, gq2⟩ := ho8.le
        obtain ⟨lawB, law1, law2⟩ := draw0_law (kd := kk) (ks := kk) (op := o) (k0 := k0) (k1 := k1) (X0 := Xd0) (Y0 := Yd0) (sx0 := Xd0) (sy0 := Yd0) (by have := HK.out; omega) HD.out.2.1 HD.out.2.1 HPM.out (by have := HC.out; rw [HGD.out.2.1, HGD.out.2.2.1] at this; exact this) (.inr ⟨rfl, rfl⟩)
        rw [← HGD.out.2.2.2.1, HQ.out] at lawB law1 law2
        have hAO : AtOK kk Xd0 Yd0 Xd1 n dh dw := .inr ⟨by have := HK.out; omega, by have := HGD.out.2.1; omega, HGD.out.2.2.2.1, HGD.out.2.2.2.2.1, HGD.out.2.2.2.2.2.1, by have := HGD.out.2.2.2.2.2.2; omega, by have := HGD.out.2.2.2.2.2.2; omega, by have := HGD.out.2.2.2.2.2.2; omega, by have := HGD.out.2.2.2.2.2.2; omega⟩
        refine (drawnN_c _ HK.out ho (HD.out.1.kept0 (gb_trans HGc.out hJ.1.gb)) ho8.rd (HD.out.1.kept0 (gb_trans HGc.out hJ.1.gb)) HD.out.2.1 lawB HD.out.2.1 HD.out.2.2.2.1 HD.out.2.2.2.2 gq1 gq2 HD.out.2.2.2.1 HD.out.2.2.2.2 HGD.out.2.1 HGD.out.2.2.1 HGD.out.2.2.2.1 HGD.out.2.2.2.2.1 HGD.out.2.2.2.2.2.1 (by have := HGD.out.2.2.2.2.2.2; omega) hAO (pm_src HPM.out) (cl0_small9 HC.out) law1 law2).mono ?_
        rintro e w8 ⟨rfl, hg⟩
        exact hK.out _ _ (hJ.pure hg rfl rfl rfl)
      · intro l t w7 hJ hl hd bb hbb K hK
        have e12 := hJ.1.val 12 _ rfl (hd 12 (by kernel_rfl))
        simp only [puts, Act.put, List.setIfInBounds_toArray, List.set_cons_zero, List.set_cons_succ] at hbb
        rw [e12] at hbb
        subst hbb
        go_simp
        exact hK.out _ _ (hJ.pure (gb_refl _ _) rfl rfl rfl)
    intro l t w9 hJ hl
    have e13 := hJ.1.val 13 _ rfl (hl 13 (by decide))
    have HG9 := hid (gb_trans HGc.out hJ.1.gb)
    clear hJ hl
    simp only [puts, Act.put, List.setIfInBounds_toArray, List.set_cons_zero, List.set_cons_succ]
    rw [e13]
    clear e13
    go_wp2_with fail
    go_ret
    exact ⟨rfl, HG9.out⟩
  · go_enter Tryz.func9, Tryz.ntmps9
    go_wp2_with fail
    refine (fits_n _ hn).mono ?_
    rintro e w1 ⟨rfl, hg⟩
    have hh1 := gb_trans (a := w) (by (repeat (first | exact gb_refl _ _ | assumption | refine gb_drew ?_ | refine gb_drewN ?_ _ | refine gb_alloc ?_ _ | refine gb_setCell ?_ (.inr (by simp <;> omega)) _))) hg
    have HG1 := hid hh1
    clear hg hh1
    go_wp2_with fail
    go_ret
    exact ⟨rfl, HG1.out⟩
end Go.Proofs.YtgjpohmjkhgpfaaGreat
