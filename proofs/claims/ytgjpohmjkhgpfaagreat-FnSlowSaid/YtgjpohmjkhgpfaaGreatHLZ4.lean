/- The laws' drawn, through a mask: of pixels that are near it says so. -/
import Derived.Test.YtgjpohmjkhgpfaaGreatHLZ0
set_option linter.unusedSimpArgs false
set_option linter.unusedVariables false
namespace Go.Proofs.YtgjpohmjkhgpfaaGreat
open Go.RowKit

set_option maxRecDepth 100000 in
set_option maxHeartbeats 16000000 in
theorem drawnM_4 {n n' cd cg cs dh dw ks sh sw op km mh mw bm cm n'' : Nat} {Xd0 Yd0 Xd1 Yd1 X0 Y0 X1 Y1 b0 b1 b2 b3 p0 p1 k0 k1 Xm0 Ym0 Xm1 Ym1 : Int} {Ad Ag As Am : Option Addr} {p q s m : Nat → Int} (w : World) (hop : op ≤ 1)
    (hd : Rd w Ad n p) (hq : Rd w Ag n q) (hs : Rd w As n' s) (hpb : By p) (hqb : By q) (hsb : By s) (c1 : n ≤ cd) (c2 : cd ≤ 9223372036854775807) (c3 : n ≤ cg) (c4 : cg ≤ 9223372036854775807) (c5 : n' ≤ cs) (c6 : cs ≤ 9223372036854775807)
    (gx : Xd1 = Xd0 + dw) (gy : Yd1 = Yd0 + dh) (gm : n = dh * (dw * 8)) (gw : dw ≤ 128) (gh : dh ≤ 128) (gv : -64 ≤ Xd0 ∧ Xd0 ≤ 64 ∧ -64 ≤ Yd0 ∧ Yd0 ≤ 64)
    (hG : AtOK ks X0 Y0 X1 n' sh sw) (hpm : ∀ r c, Pm ks (srcP ks sw s r c)) (hbp : -9000000000 ≤ b0 ∧ b0 ≤ 9000000000 ∧ -9000000000 ≤ b1 ∧ b1 ≤ 9000000000 ∧ -9000000000 ≤ p0 ∧ p0 ≤ 9000000000 ∧ -9000000000 ≤ p1 ∧ p1 ≤ 9000000000)
    (hbm : CellsAt w bm [.int .i64 km, .int .i64 Xm0, .int .i64 Ym0, .int .i64 Xm1, .int .i64 Ym1, .slice Am n'' cm]) (hm : Rd w Am n'' m) (hmb : By m) (c7 : n'' ≤ cm) (c8 : cm ≤ 9223372036854775807) (hGm : AtOK km Xm0 Ym0 Xm1 n'' mh mw) (hbk : -9000000000 ≤ k0 ∧ k0 ≤ 9000000000 ∧ -9000000000 ≤ k1 ∧ k1 ≤ 9000000000)
    (hout : ∀ r c ch, r < dh → c < dw → ch < 8 → ¬ InC b0 b1 b2 b3 Xd0 Yd0 r c → q ((r * dw + c) * 8 + ch) = p ((r * dw + c) * 8 + ch))
    (hin : ∀ r c, r < dh → c < dw → InC b0 b1 b2 b3 Xd0 Yd0 r c → ∃ sr sc mr mc : Nat, (ks = 6 ∨ (p0 + (Xd0 + (c : Int)) - b0 - X0 = sc ∧ p1 + (Yd0 + (r : Int)) - b1 - Y0 = sr ∧ sc < sw ∧ sr < sh)) ∧ (km = 6 ∨ (k0 + (Xd0 + (c : Int)) - b0 - Xm0 = mc ∧ k1 + (Yd0 + (r : Int)) - b1 - Ym0 = mr ∧ mc < mw ∧ mr < mh)) ∧
      NearV 4 (fun ch => q ((r * dw + c) * 8 + ch)) (fun i => cmp op (cl 4 (srcP 4 dw p r c) i) (cl ks (srcP ks sw s sr sc) i) (cl ks (srcP ks sw s sr sc) 3) (cl km (srcP km mw m mr mc) 3))) :
    Calls Tryz.prog 20 #[vI 4 Xd0 Yd0 Xd1 Yd1 Ad n cd, .slice Ag n cg, vR b0 b1 b2 b3, vP p0 p1, vP k0 k1, vI ks X0 Y0 X1 Y1 As n' cs, .pointer (some ⟨bm, 0, none⟩), .int .i64 op] w fun e w' => e = .returned (.bool true) ∧ w.grownBy w' none := by
  have HD := hid (And.intro hd (And.intro hpb (And.intro c1 c2)))
  have HQ := hid (And.intro hq (And.intro hqb (And.intro c3 c4)))
  have HS := hid (And.intro hs (And.intro hsb (And.intro c5 c6)))
  have HGD := hid (And.intro gx (And.intro gy (And.intro gm (And.intro gw (And.intro gh gv)))))
  have HGS := hid hG
  have HPm := hid hpm
  have HBp := hid hbp
  have HOut := hid hout
  have HIn := hid hin
  have Hop := hid hop
  have HM := hid (And.intro hm (And.intro hmb (And.intro c7 c8)))
  have HBM := hid hbm
  have HGM := hid hGm
  have HBk := hid hbk
  clear hd hq hs hpb hqb hsb c1 c2 c3 c4 c5 c6 gx gy gm gw gh gv hG hpm hbp hout hin hop hm hmb c7 c8 hbm hGm hbk
  go_enter Tryz.func20, Tryz.ntmps20
  go_upto_region 1 with fail
  obtain ⟨w1, hw1⟩ : ∃ w1 : World, w1 = (((((w.alloc (.cells #[.int .i64 4, .int .i64 Xd0, .int .i64 Yd0, .int .i64 Xd1, .int .i64 Yd1, .slice Ad n cd] 24)).alloc (.cells #[.int .i64 b0, .int .i64 b1, .int .i64 b2, .int .i64 b3] 28)).alloc (.cells #[.int .i64 p0, .int .i64 p1] 34)).alloc (.cells #[.int .i64 k0, .int .i64 k1] 34)).alloc (.cells #[.int .i64 ks, .int .i64 X0, .int .i64 Y0, .int .i64 X1, .int .i64 Y1, .slice As n' cs] 24)) := ⟨_, rfl⟩
  rw [← hw1]
  have hg1 : w.grownBy w1 none := by rw [hw1]; exact (by (repeat (first | exact gb_refl _ _ | refine gb_alloc ?_ _)))
  have cA : CellsAt w1 w.heap.size [.int .i64 4, .int .i64 Xd0, .int .i64 Yd0, .int .i64 Xd1, .int .i64 Yd1, .slice Ad n cd] := fun i v hv => by (rw [hw1]; rcases i with _ | _ | _ | _ | _ | _ | i <;> (first | (cases hv; go_simp; done) | (simp at hv; done)))
  have HcA := hid cA
  have cB : CellsAt w1 (w.heap.size + 1) [.int .i64 b0, .int .i64 b1, .int .i64 b2, .int .i64 b3] := fun i v hv => by (rw [hw1]; rcases i with _ | _ | _ | _ | i <;> (first | (cases hv; go_simp; done) | (simp at hv; done)))
  have HcB := hid cB
  have cP : CellsAt w1 (w.heap.size + 1 + 1) [.int .i64 p0, .int .i64 p1] := fun i v hv => by (rw [hw1]; rcases i with _ | _ | i <;> (first | (cases hv; go_simp; done) | (simp at hv; done)))
  have HcP := hid cP
  have cK : CellsAt w1 (w.heap.size + 1 + 1 + 1) [.int .i64 k0, .int .i64 k1] := fun i v hv => by (rw [hw1]; rcases i with _ | _ | i <;> (first | (cases hv; go_simp; done) | (simp at hv; done)))
  have HcK := hid cK
  have cS : CellsAt w1 (w.heap.size + 1 + 1 + 1 + 1) [.int .i64 ks, .int .i64 X0, .int .i64 Y0, .int .i64 X1, .int .i64 Y1, .slice As n' cs] := fun i v hv => by (rw [hw1]; rcases i with _ | _ | _ | _ | _ | _ | i <;> (first | (cases hv; go_simp; done) | (simp at hv; done)))
  have HcS := hid cS
  have HG1 := hid hg1
  clear hg1 cA cB cP cK cS hw1
  refine wp_region_inv (JV w1 [some (vI 4 Xd0 Yd0 Xd1 Yd1 Ad n cd), some (vI ks X0 Y0 X1 Y1 As n' cs), none, none, none, none] [(2, 4, [.int .i64 4, .int .i64 Xd0, .int .i64 Yd0, .int .i64 Xd1, .int .i64 Yd1, .slice Ad n cd]), (3, 5, [.int .i64 ks, .int .i64 X0, .int .i64 Y0, .int .i64 X1, .int .i64 Y1, .slice As n' cs])]) (fun _ => undef) (by kernel_rfl) (by kernel_rfl) [(0, 27), (1, 28), (2, 17), (3, 18)] (by kernel_rfl) (JV.start (by (repeat (first | exact gb_refl _ _ | assumption | refine gb_drew ?_ | refine gb_drewN ?_ _ | refine gb_alloc ?_ _ | refine gb_setCell ?_ (.inr (by simp <;> omega)) _)))) ?_ ?_
  · refine Steps'.cons [] (by kernel_rfl) ?_ (Steps'.cons [] (by kernel_rfl) ?_ (Steps'.cons [] (by kernel_rfl) ?_ (Steps'.cons [] (by kernel_rfl) ?_ (Steps'.cons [(0, 27), (2, 17)] (by kernel_rfl) ?_ (Steps'.cons [(1, 28), (3, 18)] (by kernel_rfl) ?_ (Steps'.nil))))))
    · intro l t w7 hJ hl hd bb hbb K hK
      have f0 := (HcA.out.kept0 hJ.gb) 0 _ rfl
      have f1 := (HcA.out.kept0 hJ.gb) 1 _ rfl
      have f2 := (HcA.out.kept0 hJ.gb) 2 _ rfl
      have f3 := (HcA.out.kept0 hJ.gb) 3 _ rfl
      have f4 := (HcA.out.kept0 hJ.gb) 4 _ rfl
      have f5 := (HcA.out.kept0 hJ.gb) 5 _ rfl
      simp only [puts, Act.put, List.setIfInBounds_toArray, List.set_cons_zero, List.set_cons_succ] at hbb
      subst hbb
      go_simp
      exact hK.out _ _ (hJ.pure (gb_refl _ _) rfl rfl)
    · intro l t w7 hJ hl hd bb hbb K hK
      have f0 := (HcS.out.kept0 hJ.gb) 0 _ rfl
      have f1 := (HcS.out.kept0 hJ.gb) 1 _ rfl
      have f2 := (HcS.out.kept0 hJ.gb) 2 _ rfl
      have f3 := (HcS.out.kept0 hJ.gb) 3 _ rfl
      have f4 := (HcS.out.kept0 hJ.gb) 4 _ rfl
      have f5 := (HcS.out.kept0 hJ.gb) 5 _ rfl
      simp only [puts, Act.put, List.setIfInBounds_toArray, List.set_cons_zero, List.set_cons_succ] at hbb
      subst hbb
      go_simp
      exact hK.out _ _ (hJ.pure (gb_refl _ _) rfl rfl)
    · intro l t w7 hJ hl hd bb hbb K hK
      simp only [puts, Act.put, List.setIfInBounds_toArray, List.set_cons_zero, List.set_cons_succ] at hbb
      subst hbb
      go_simp
      exact hK.out _ _ (hJ.alloc (vsOK2 rfl) (C := #[.int .i64 0, .int .i64 0, .int .i64 0, .int .i64 0, .int .i64 0, .slice none 0 0]) (s := 4) (vals := [.int .i64 4, .int .i64 Xd0, .int .i64 Yd0, .int .i64 Xd1, .int .i64 Yd1, .slice Ad n cd]) (by simp) rfl hl rfl rfl)
    · intro l t w7 hJ hl hd bb hbb K hK
      simp only [puts, Act.put, List.setIfInBounds_toArray, List.set_cons_zero, List.set_cons_succ] at hbb
      subst hbb
      go_simp
      exact hK.out _ _ (hJ.alloc (vsOK2 rfl) (C := #[.int .i64 0, .int .i64 0, .int .i64 0, .int .i64 0, .int .i64 0, .slice none 0 0]) (s := 5) (vals := [.int .i64 ks, .int .i64 X0, .int .i64 Y0, .int .i64 X1, .int .i64 Y1, .slice As n' cs]) (by simp) rfl hl rfl rfl)
    · intro l t w7 hJ hl hd bb hbb K hK
      obtain ⟨g, eg, -, -, hc⟩ := hJ.open (a := 2) (s := 4) (vals := [.int .i64 4, .int .i64 Xd0, .int .i64 Yd0, .int .i64 Xd1, .int .i64 Yd1, .slice Ad n cd]) (by simp) (hd 2 (by kernel_rfl))
      obtain ⟨⟨u0, c0⟩, z0⟩ := hc 0 (by simp)
      obtain ⟨⟨u1, c1⟩, z1⟩ := hc 1 (by simp)
      obtain ⟨⟨u2, c2⟩, z2⟩ := hc 2 (by simp)
      obtain ⟨⟨u3, c3⟩, z3⟩ := hc 3 (by simp)
      obtain ⟨⟨u4, c4⟩, z4⟩ := hc 4 (by simp)
      obtain ⟨⟨u5, c5⟩, z5⟩ := hc 5 (by simp)
      have e0 := hJ.val 0 _ rfl (hd 0 (by kernel_rfl))
      simp only [puts, Act.put, List.setIfInBounds_toArray, List.set_cons_zero, List.set_cons_succ] at hbb
      rw [e0] at hbb
      rw [eg] at hbb
      subst hbb
      go_simp
      obtain ⟨y1, y2, y3⟩ := st6 c0 c1 c2 c3 c4 c5
      exact hK.out undef _ (hJ.store (u := undef) (vsOK2 rfl) (a := 2) (vals := [.int .i64 4, .int .i64 Xd0, .int .i64 Yd0, .int .i64 Xd1, .int .i64 Yd1, .slice Ad n cd]) (by simp) rfl (hd 2 (by kernel_rfl)) eg y1 y2 y3)
    · intro l t w7 hJ hl hd bb hbb K hK
      obtain ⟨g, eg, -, -, hc⟩ := hJ.open (a := 3) (s := 5) (vals := [.int .i64 ks, .int .i64 X0, .int .i64 Y0, .int .i64 X1, .int .i64 Y1, .slice As n' cs]) (by simp) (hd 3 (by kernel_rfl))
      obtain ⟨⟨u0, c0⟩, z0⟩ := hc 0 (by simp)
      obtain ⟨⟨u1, c1⟩, z1⟩ := hc 1 (by simp)
      obtain ⟨⟨u2, c2⟩, z2⟩ := hc 2 (by simp)
      obtain ⟨⟨u3, c3⟩, z3⟩ := hc 3 (by simp)
      obtain ⟨⟨u4, c4⟩, z4⟩ := hc 4 (by simp)
      obtain ⟨⟨u5, c5⟩, z5⟩ := hc 5 (by simp)
      have e1 := hJ.val 1 _ rfl (hd 1 (by kernel_rfl))
      simp only [puts, Act.put, List.setIfInBounds_toArray, List.set_cons_zero, List.set_cons_succ] at hbb
      rw [e1] at hbb
      rw [eg] at hbb
      subst hbb
      go_simp
      obtain ⟨y1, y2, y3⟩ := st6 c0 c1 c2 c3 c4 c5
      exact hK.out undef _ (hJ.store (u := undef) (vsOK2 rfl) (a := 3) (vals := [.int .i64 ks, .int .i64 X0, .int .i64 Y0, .int .i64 X1, .int .i64 Y1, .slice As n' cs]) (by simp) rfl (hd 3 (by kernel_rfl)) eg y1 y2 y3)
  intro l t wc hJ hl
  obtain ⟨gD, e2, -, -, hgD⟩ := hJ.var (a := 2) (s := 4) (vals := [.int .i64 4, .int .i64 Xd0, .int .i64 Yd0, .int .i64 Xd1, .int .i64 Yd1, .slice Ad n cd]) (by simp) (hl 2 (by decide)) (hl 4 (by decide))
  obtain ⟨gS, e3, -, -, hgS⟩ := hJ.var (a := 3) (s := 5) (vals := [.int .i64 ks, .int .i64 X0, .int .i64 Y0, .int .i64 X1, .int .i64 Y1, .slice As n' cs]) (by simp) (hl 3 (by decide)) (hl 5 (by decide))
  have hgw := hJ.gb
  have HgD : Hid (CellsAt wc gD [.int .i64 4, .int .i64 Xd0, .int .i64 Yd0, .int .i64 Xd1, .int .i64 Yd1, .slice Ad n cd]) := hid hgD
  have HgS : Hid (CellsAt wc gS [.int .i64 ks, .int .i64 X0, .int .i64 Y0, .int .i64 X1, .int .i64 Y1, .slice As n' cs]) := hid hgS
  have HA := hid (HcA.out.kept0 hgw)
  have HB := hid (HcB.out.kept0 hgw)
  have HP := hid (HcP.out.kept0 hgw)
  have HKk := hid (HcK.out.kept0 hgw)
  have HG := hid (gb_trans HG1.out hgw)
  clear hJ hl hgD hgS hgw HcA HcB HcP HcK HcS HG1
  simp only [puts, Act.put, List.setIfInBounds_toArray, List.set_cons_zero, List.set_cons_succ]
  rw [e2, e3]
  clear e2 e3
  have a0 := HA.out 0 _ rfl
  have a2 := HA.out 2 _ rfl
  have a5 := HA.out 5 _ rfl
  go_wp2_with fail
  refine (size_c 4 (by omega) _).mono ?_
  rintro e wz ⟨he, rfl⟩
  have he : e = .returned (.int .i64 8) := he
  subst he
  go_wp2_with fail
  clear a0 a2 a5
  have a1 := HA.out 1 _ rfl
  have a2 := HA.out 2 _ rfl
  have a3 := HA.out 3 _ rfl
  have a4 := HA.out 4 _ rfl
  have zA := World.block_lt_of_cell? wc _ a1
  go_loopw [22, 21] (fun u v wr => ∃ (j i : Nat), j ≤ dh ∧ i = (j * dw) * 8 ∧ u = .int .i64 (Yd0 + (j : Int)) ∧ v = .int .i64 (i : Int) ∧ wc.grownBy wr none) (fun u _ _ => (Yd1 - intOf u).toNat)
  case atStart => exact ⟨0, 0, by omega, by omega, by first | rfl | (congr 1; omega), rfl, gb_refl _ _⟩
  case round =>
  obtain ⟨j, i, hj, hi, rfl, rfl, hgr⟩ := hrel
  obtain ⟨gx, gy, gm, gw, gh, v1, v2, v3, v4⟩ := HGD.out
  have HR := hid hgr
  have a1r := (gb_cell0 hgr (p := ⟨w.heap.size, 1, none⟩) zA).trans a1
  have a2r := (gb_cell0 hgr (p := ⟨w.heap.size, 2, none⟩) zA).trans a2
  have a3r := (gb_cell0 hgr (p := ⟨w.heap.size, 3, none⟩) zA).trans a3
  have a4r := (gb_cell0 hgr (p := ⟨w.heap.size, 4, none⟩) zA).trans a4
  have hib : i ≤ 200000 := by rw [hi]; have := Nat.mul_le_mul hj (Nat.le_refl dw); have := Nat.mul_le_mul gh gw; omega
  have Hi := hid hi
  clear hi hgr gm
  by_cases hlt : j < dh
  · have t1 : Yd0 + (j : Int) < Yd1 := by omega
    clear gx gy
    go_wp2_with fail
    obtain ⟨wo, hwo⟩ : ∃ wo : World, wo = wr := ⟨_, rfl⟩
    go_loopw [23, 21] (fun u v wr => ∃ (c i : Nat), c ≤ dw ∧ i = (j * dw + c) * 8 ∧ u = .int .i64 (Xd0 + (c : Int)) ∧ v = .int .i64 (i : Int) ∧ wc.grownBy wr none) (fun u _ _ => (Xd1 - intOf u).toNat)
    case atStart => exact ⟨0, i, by omega, Hi.out, by first | rfl | (congr 1; omega), rfl, HR.out⟩
    case round =>
    clear hwo wo a1r a2r a3r a4r HR
    obtain ⟨c, i', hc, hi', rfl, rfl, hgr⟩ := hrel
    have HR := hid hgr
    have a1r := (gb_cell0 hgr (p := ⟨w.heap.size, 1, none⟩) zA).trans a1
    have a2r := (gb_cell0 hgr (p := ⟨w.heap.size, 2, none⟩) zA).trans a2
    have a3r := (gb_cell0 hgr (p := ⟨w.heap.size, 3, none⟩) zA).trans a3
    have a4r := (gb_cell0 hgr (p := ⟨w.heap.size, 4, none⟩) zA).trans a4
    have HBr := hid (HB.out.kept0 hgr)
    have HAr := hid (HA.out.kept0 hgr)
    obtain ⟨gx, gy, gm, gw, gh, v1, v2, v3, v4⟩ := HGD.out
    have hib2 : i' ≤ 200000 := by rw [hi']; have := Nat.mul_le_mul hj (Nat.le_refl dw); have := Nat.mul_le_mul gh gw; omega
    have Hi2 := hid hi'
    by_cases hlc : c < dw
    · have t2 : Xd0 + (c : Int) < Xd1 := by omega
      have hfit : i' + 8 ≤ n := by
        have h1 := row_fits (wd := dw) (k := 8) (r := j) (m := c * 8 + 8) hlt (by omega)
        have h2 : (j * dw + c) * 8 = j * (dw * 8) + c * 8 := by rw [Nat.add_mul, Nat.mul_assoc]
        rw [hi', h2, gm]; omega
      obtain ⟨⟨gb_, go_, gp_⟩, hAg, hgl, hgc⟩ := (HQ.out.1.kept0 (gb_trans HG.out hgr)) (by omega)
      subst hAg
      obtain ⟨cq1, cq2⟩ := HQ.out.2.2
      rcases hga : (⟨gb_, go_, gp_⟩ : Addr).add i' with ⟨ab, ao, ap⟩
      have Hcell : Hid (∀ ch, ch < 8 → wr.cell? ((⟨ab, ao, ap⟩ : Addr).add ch) = some (.int .u8 (q (i' + ch)))) := hid (fun ch hch => by rw [← hga, add_add]; exact hgc _ (by omega))
      have s1 : IntKind.i64.wrap ((i' : Int) + 8) = (i' : Int) + 8 := IntWalk.i64_in _ (by omega)
      have s2 : (0 : Int) ≤ (i' : Int) + 8 := by omega
      have s3 : (i' : Int) + 8 ≤ (cg : Int) := by omega
      have s4 : ((i' : Int) + 8).toNat = i' + 8 := by omega
      have s6 : ¬ (cg = i') := by omega
      have s7 : (i' : Int) ≤ (i' : Int) + 8 := by omega
      have HGX := hid (And.intro gx hlc)
      clear hi' hgr gm gy gx hgc hgl
      have HA2 := HAr.out
      have x0 := HBr.out 0 _ rfl
      have x1 := HBr.out 1 _ rfl
      have x2 := HBr.out 2 _ rfl
      have x3 := HBr.out 3 _ rfl
      clear HA2
      by_cases hinb : InC b0 b1 b2 b3 Xd0 Yd0 j c
      · go_wp2_with fail
        refine (shas_y b0 b1 b2 b3 _ _ _ hinb.1 hinb.2.1 hinb.2.2.1 hinb.2.2.2).mono ?_
        rintro e w5 ⟨rfl, hg5⟩
        have HR5 := hid (gb_trans HR.out hg5)
        have HG5 := hid hg5
        obtain ⟨sr, sc, mr, mc, hsp, hmp, hnear⟩ := HIn.out j c hlt hlc hinb
        obtain ⟨dd, hdd⟩ : ∃ dd : Nat → Int, cl 4 (srcP 4 dw p j c) = dd := ⟨_, rfl⟩
        obtain ⟨ss, hss⟩ : ∃ ss : Nat → Int, cl ks (srcP ks sw s sr sc) = ss := ⟨_, rfl⟩
        rw [hdd, hss] at hnear
        obtain ⟨mv, hmv⟩ : ∃ mv : Nat → Int, cl km (srcP km mw m mr mc) = mv := ⟨_, rfl⟩
        rw [hmv] at hnear
        have bsr : ∀ {kk ww : Nat} {z : Nat → Int} (h : By z) (r c : Nat), By (srcP kk ww z r c) := fun h r c => by unfold srcP; split; exact h; exact by_toP h _ _ _ _
        have fd : ∀ i, fu (dd i) := fun i => by rw [← hdd]; exact fu_cl (bsr HD.out.2.1 _ _) i
        have fs : ∀ i, fu (ss i) := fun i => by rw [← hss]; exact fu_cl (bsr HS.out.2.1 _ _) i
        have fp : ∀ i, i < 4 → ss i ≤ ss 3 := fun i hi => by rw [← hss]; exact pm_le (HPm.out _ _) hi
        have fm : fu (mv 3) := by rw [← hmv]; exact fu_cl (bsr HM.out.2.1 _ _) 3
        obtain ⟨E0, hE0⟩ : ∃ E, cmp op (dd 0) (ss 0) (ss 3) (mv 3) = E := ⟨_, rfl⟩
        have bE0 : eu E0 := by rw [← hE0]; exact eu_cmp (fd 0) (fs 0) (fs 3) fm (fp 0 (by omega))
        obtain ⟨E1, hE1⟩ : ∃ E, cmp op (dd 1) (ss 1) (ss 3) (mv 3) = E := ⟨_, rfl⟩
        have bE1 : eu E1 := by rw [← hE1]; exact eu_cmp (fd 1) (fs 1) (fs 3) fm (fp 1 (by omega))
        obtain ⟨E2, hE2⟩ : ∃ E, cmp op (dd 2) (ss 2) (ss 3) (mv 3) = E := ⟨_, rfl⟩
        have bE2 : eu E2 := by rw [← hE2]; exact eu_cmp (fd 2) (fs 2) (fs 3) fm (fp 2 (by omega))
        obtain ⟨E3, hE3⟩ : ∃ E, cmp op (dd 3) (ss 3) (ss 3) (mv 3) = E := ⟨_, rfl⟩
        have bE3 : eu E3 := by rw [← hE3]; exact eu_cmp (fd 3) (fs 3) (fs 3) fm (fp 3 (by omega))
        have hN : NearV 4 (fun ch => q (i' + ch)) (fun i => match i with | 0 => E0 | 1 => E1 | 2 => E2 | _ => E3) := by
          rw [Hi2.out, ← hE0, ← hE1, ← hE2, ← hE3]
          intro i hi
          have hi' : i = 0 ∨ i = 1 ∨ i = 2 ∨ i = 3 := by omega
          rcases hi' with rfl | rfl | rfl | rfl
          · exact hnear 0 hi
          · exact hnear 1 hi
          · exact hnear 2 hi
          · exact hnear 3 hi
        have HN := hid (And.intro hN (And.intro bE0 (And.intro bE1 (And.intro bE2 bE3))))
        have HC := hid (And.intro fd (And.intro fs (And.intro fm (And.intro hE0 (And.intro hE1 (And.intro hE2 hE3))))))
        have HP2 := hid (And.intro hsp (And.intro hdd hss))
        have HP3 := hid (And.intro hmp hmv)
        have HI2 := hid hinb
        have hb9 : -200 ≤ Xd0 + (c : Int) ∧ Xd0 + (c : Int) ≤ 200 ∧ -200 ≤ Yd0 + (j : Int) ∧ Yd0 + (j : Int) ≤ 200 := by omega
        clear hN bE0 bE1 bE2 bE3 fd fs fp fm hE0 hE1 hE2 hE3 hsp hdd hss hnear bsr hinb hmp hmv
        clear a1r a2r a3r a4r x0 x1 x2 x3 s1 s2 s3 s4 s6 s7 hg5
        have HBMr := hid (HBM.out.kept0 (gb_trans HG.out HR5.out))
        go_wp2_with fail
        refine wp_region_inv (JV w5 [some (.pointer (some ⟨bm, 0, none⟩)), some (.pointer (some ⟨bm, 0, none⟩)), some (vI km Xm0 Ym0 Xm1 Ym1 Am n'' cm), some (.pointer (some ⟨(w.heap.size + 1 + 1 + 1), 0, none⟩)), some (.int .i64 k0), some ((.int .i64 (Xd0 + (c : Int)))), some (.int .i64 (k0 + (Xd0 + (c : Int)))), some (.pointer (some ⟨(w.heap.size + 1), 0, none⟩)), some (.int .i64 b0), some (.int .i64 (k0 + (Xd0 + (c : Int)) - b0)), some (.pointer (some ⟨(w.heap.size + 1 + 1 + 1), 1, none⟩)), some (.int .i64 k1), some ((.int .i64 (Yd0 + (j : Int)))), some (.int .i64 (k1 + (Yd0 + (j : Int)))), some (.pointer (some ⟨(w.heap.size + 1), 1, none⟩)), some (.int .i64 b1), some (.int .i64 (k1 + (Yd0 + (j : Int)) - b1)), some (v4i (mv 0) (mv 1) (mv 2) (mv 3)), some (.int .i64 (mv 3)), some (.int .i64 (mv 3))] []) (fun _ => undef) (by kernel_rfl) (by kernel_rfl) [(0, 84), (1, 85), (2, 86), (3, 87), (4, 88), (5, 89), (6, 90), (7, 91), (8, 92), (9, 93), (10, 94), (11, 95), (12, 96), (13, 97), (14, 98), (15, 99), (16, 100), (17, 101), (18, 102), (19, 25)] (by kernel_rfl) (JV.start (by (repeat (first | exact gb_refl _ _ | assumption | refine gb_drew ?_ | refine gb_drewN ?_ _ | refine gb_alloc ?_ _ | refine gb_setCell ?_ (.inr (by simp <;> omega)) _)))) ?_ ?_
        · refine Steps'.cons [] (by kernel_rfl) ?_ (Steps'.cons [(0, 84)] (by kernel_rfl) ?_ (Steps'.cons [(1, 85)] (by kernel_rfl) ?_ (Steps'.cons [] (by kernel_rfl) ?_ (Steps'.cons [(3, 87)] (by kernel_rfl) ?_ (Steps'.cons [] (by kernel_rfl) ?_ (Steps'.cons [(4, 88), (5, 89)] (by kernel_rfl) ?_ (Steps'.cons [] (by kernel_rfl) ?_ (Steps'.cons [(7, 91)] (by kernel_rfl) ?_ (Steps'.cons [(6, 90), (8, 92)] (by kernel_rfl) ?_ (Steps'.cons [] (by kernel_rfl) ?_ (Steps'.cons [(10, 94)] (by kernel_rfl) ?_ (Steps'.cons [] (by kernel_rfl) ?_ (Steps'.cons [(11, 95), (12, 96)] (by kernel_rfl) ?_ (Steps'.cons [] (by kernel_rfl) ?_ (Steps'.cons [(14, 98)] (by kernel_rfl) ?_ (Steps'.cons [(13, 97), (15, 99)] (by kernel_rfl) ?_ (Steps'.cons [(2, 86), (9, 93), (16, 100)] (by kernel_rfl) ?_ (Steps'.cons [(17, 101)] (by kernel_rfl) ?_ (Steps'.cons [(18, 102)] (by kernel_rfl) ?_ (Steps'.nil))))))))))))))))))))
          · intro l t w7 hJ hl hd bb hbb K hK
            simp only [puts, Act.put, List.setIfInBounds_toArray, List.set_cons_zero, List.set_cons_succ] at hbb
            subst hbb
            go_simp
            exact hK.out _ _ (hJ.pure (gb_refl _ _) rfl rfl)
          · intro l t w7 hJ hl hd bb hbb K hK
            have e0 := hJ.val 0 _ rfl (hd 0 (by kernel_rfl))
            simp only [puts, Act.put, List.setIfInBounds_toArray, List.set_cons_zero, List.set_cons_succ] at hbb
            rw [e0] at hbb
            subst hbb
            go_simp
            exact hK.out _ _ (hJ.pure (gb_refl _ _) rfl rfl)
          · intro l t w7 hJ hl hd bb hbb K hK
            have f0 := (HBMr.out.kept0 hJ.gb) 0 _ rfl
            have f1 := (HBMr.out.kept0 hJ.gb) 1 _ rfl
            have f2 := (HBMr.out.kept0 hJ.gb) 2 _ rfl
            have f3 := (HBMr.out.kept0 hJ.gb) 3 _ rfl
            have f4 := (HBMr.out.kept0 hJ.gb) 4 _ rfl
            have f5 := (HBMr.out.kept0 hJ.gb) 5 _ rfl
            have e1 := hJ.val 1 _ rfl (hd 1 (by kernel_rfl))
            simp only [puts, Act.put, List.setIfInBounds_toArray, List.set_cons_zero, List.set_cons_succ] at hbb
            rw [e1] at hbb
            subst hbb
            go_simp
            exact hK.out _ _ (hJ.pure (gb_refl _ _) rfl rfl)
          · intro l t w7 hJ hl hd bb hbb K hK
            simp only [puts, Act.put, List.setIfInBounds_toArray, List.set_cons_zero, List.set_cons_succ] at hbb
            subst hbb
            go_simp
            exact hK.out _ _ (hJ.pure (gb_refl _ _) rfl rfl)
          · intro l t w7 hJ hl hd bb hbb K hK
            have f0 := (HKk.out.kept0 (gb_trans HR5.out hJ.gb)) 0 _ rfl
            have f1 := (HKk.out.kept0 (gb_trans HR5.out hJ.gb)) 1 _ rfl
            have e3 := hJ.val 3 _ rfl (hd 3 (by kernel_rfl))
            simp only [puts, Act.put, List.setIfInBounds_toArray, List.set_cons_zero, List.set_cons_succ] at hbb
            rw [e3] at hbb
            subst hbb
            go_simp
            exact hK.out _ _ (hJ.pure (gb_refl _ _) rfl rfl)
          · intro l t w7 hJ hl hd bb hbb K hK
            simp only [puts, Act.put, List.setIfInBounds_toArray, List.set_cons_zero, List.set_cons_succ] at hbb
            subst hbb
            go_simp
            exact hK.out _ _ (hJ.pure (gb_refl _ _) rfl rfl)
          · intro l t w7 hJ hl hd bb hbb K hK
            have bb1 := HBp.out
            have bb2 := HBk.out
            have wq : IntKind.i64.wrap (k0 + (Xd0 + (c : Int))) = k0 + (Xd0 + (c : Int)) := IntWalk.i64_in _ (by omega)
            have e4 := hJ.val 4 _ rfl (hd 4 (by kernel_rfl))
            have e5 := hJ.val 5 _ rfl (hd 5 (by kernel_rfl))
            simp only [puts, Act.put, List.setIfInBounds_toArray, List.set_cons_zero, List.set_cons_succ] at hbb
            rw [e4] at hbb
            rw [e5] at hbb
            subst hbb
            go_simp
            exact hK.out _ _ (hJ.pure (gb_refl _ _) rfl rfl)
          · intro l t w7 hJ hl hd bb hbb K hK
            simp only [puts, Act.put, List.setIfInBounds_toArray, List.set_cons_zero, List.set_cons_succ] at hbb
            subst hbb
            go_simp
            exact hK.out _ _ (hJ.pure (gb_refl _ _) rfl rfl)
          · intro l t w7 hJ hl hd bb hbb K hK
            have f0 := (HB.out.kept0 (gb_trans HR5.out hJ.gb)) 0 _ rfl
            have f1 := (HB.out.kept0 (gb_trans HR5.out hJ.gb)) 1 _ rfl
            have f2 := (HB.out.kept0 (gb_trans HR5.out hJ.gb)) 2 _ rfl
            have f3 := (HB.out.kept0 (gb_trans HR5.out hJ.gb)) 3 _ rfl
            have e7 := hJ.val 7 _ rfl (hd 7 (by kernel_rfl))
            simp only [puts, Act.put, List.setIfInBounds_toArray, List.set_cons_zero, List.set_cons_succ] at hbb
            rw [e7] at hbb
            subst hbb
            go_simp
            exact hK.out _ _ (hJ.pure (gb_refl _ _) rfl rfl)
          · intro l t w7 hJ hl hd bb hbb K hK
            have bb1 := HBp.out
            have bb2 := HBk.out
            have wq : IntKind.i64.wrap (k0 + (Xd0 + (c : Int)) - b0) = k0 + (Xd0 + (c : Int)) - b0 := IntWalk.i64_in _ (by omega)
            have e6 := hJ.val 6 _ rfl (hd 6 (by kernel_rfl))
            have e8 := hJ.val 8 _ rfl (hd 8 (by kernel_rfl))
            simp only [puts, Act.put, List.setIfInBounds_toArray, List.set_cons_zero, List.set_cons_succ] at hbb
            rw [e6] at hbb
            rw [e8] at hbb
            subst hbb
            go_simp
            exact hK.out _ _ (hJ.pure (gb_refl _ _) rfl rfl)
          · intro l t w7 hJ hl hd bb hbb K hK
            simp only [puts, Act.put, List.setIfInBounds_toArray, List.set_cons_zero, List.set_cons_succ] at hbb
            subst hbb
            go_simp
            exact hK.out _ _ (hJ.pure (gb_refl _ _) rfl rfl)
          · intro l t w7 hJ hl hd bb hbb K hK
            have f0 := (HKk.out.kept0 (gb_trans HR5.out hJ.gb)) 0 _ rfl
            have f1 := (HKk.out.kept0 (gb_trans HR5.out hJ.gb)) 1 _ rfl
            have e10 := hJ.val 10 _ rfl (hd 10 (by kernel_rfl))
            simp only [puts, Act.put, List.setIfInBounds_toArray, List.set_cons_zero, List.set_cons_succ] at hbb
            rw [e10] at hbb
            subst hbb
            go_simp
            exact hK.out _ _ (hJ.pure (gb_refl _ _) rfl rfl)
          · intro l t w7 hJ hl hd bb hbb K hK
            simp only [puts, Act.put, List.setIfInBounds_toArray, List.set_cons_zero, List.set_cons_succ] at hbb
            subst hbb
            go_simp
            exact hK.out _ _ (hJ.pure (gb_refl _ _) rfl rfl)
          · intro l t w7 hJ hl hd bb hbb K hK
            have bb1 := HBp.out
            have bb2 := HBk.out
            have wq : IntKind.i64.wrap (k1 + (Yd0 + (j : Int))) = k1 + (Yd0 + (j : Int)) := IntWalk.i64_in _ (by omega)
            have e11 := hJ.val 11 _ rfl (hd 11 (by kernel_rfl))
            have e12 := hJ.val 12 _ rfl (hd 12 (by kernel_rfl))
            simp only [puts, Act.put, List.setIfInBounds_toArray, List.set_cons_zero, List.set_cons_succ] at hbb
            rw [e11] at hbb
            rw [e12] at hbb
            subst hbb
            go_simp
            exact hK.out _ _ (hJ.pure (gb_refl _ _) rfl rfl)
          · intro l t w7 hJ hl hd bb hbb K hK
            simp only [puts, Act.put, List.setIfInBounds_toArray, List.set_cons_zero, List.set_cons_succ] at hbb
            subst hbb
            go_simp
            exact hK.out _ _ (hJ.pure (gb_refl _ _) rfl rfl)
          · intro l t w7 hJ hl hd bb hbb K hK
            have f0 := (HB.out.kept0 (gb_trans HR5.out hJ.gb)) 0 _ rfl
            have f1 := (HB.out.kept0 (gb_trans HR5.out hJ.gb)) 1 _ rfl
            have f2 := (HB.out.kept0 (gb_trans HR5.out hJ.gb)) 2 _ rfl
            have f3 := (HB.out.kept0 (gb_trans HR5.out hJ.gb)) 3 _ rfl
            have e14 := hJ.val 14 _ rfl (hd 14 (by kernel_rfl))
            simp only [puts, Act.put, List.setIfInBounds_toArray, List.set_cons_zero, List.set_cons_succ] at hbb
            rw [e14] at hbb
            subst hbb
            go_simp
            exact hK.out _ _ (hJ.pure (gb_refl _ _) rfl rfl)
          · intro l t w7 hJ hl hd bb hbb K hK
            have bb1 := HBp.out
            have bb2 := HBk.out
            have wq : IntKind.i64.wrap (k1 + (Yd0 + (j : Int)) - b1) = k1 + (Yd0 + (j : Int)) - b1 := IntWalk.i64_in _ (by omega)
            have e13 := hJ.val 13 _ rfl (hd 13 (by kernel_rfl))
            have e15 := hJ.val 15 _ rfl (hd 15 (by kernel_rfl))
            simp only [puts, Act.put, List.setIfInBounds_toArray, List.set_cons_zero, List.set_cons_succ] at hbb
            rw [e13] at hbb
            rw [e15] at hbb
            subst hbb
            go_simp
            exact hK.out _ _ (hJ.pure (gb_refl _ _) rfl rfl)
          · intro l t w7 hJ hl hd bb hbb K hK
            have e2 := hJ.val 2 _ rfl (hd 2 (by kernel_rfl))
            have e9 := hJ.val 9 _ rfl (hd 9 (by kernel_rfl))
            have e16 := hJ.val 16 _ rfl (hd 16 (by kernel_rfl))
            simp only [puts, Act.put, List.setIfInBounds_toArray, List.set_cons_zero, List.set_cons_succ] at hbb
            rw [e2] at hbb
            rw [e9] at hbb
            rw [e16] at hbb
            subst hbb
            go_simp
            refine (at_c _ (HM.out.1.kept0 (gb_trans HG.out (gb_trans HR5.out hJ.gb))) HM.out.2.1 HM.out.2.2.1 HM.out.2.2.2 HGM.out HP3.out.1 HP3.out.2).mono ?_
            rintro e w8 ⟨rfl, hg⟩
            exact hK.out _ _ (hJ.pure hg rfl rfl)
          · intro l t w7 hJ hl hd bb hbb K hK
            have ix := fun w' => idx3 (mv 0) (mv 1) (mv 2) (mv 3) w'
            have e17 := hJ.val 17 _ rfl (hd 17 (by kernel_rfl))
            simp only [puts, Act.put, List.setIfInBounds_toArray, List.set_cons_zero, List.set_cons_succ] at hbb
            rw [e17] at hbb
            subst hbb
            go_simp
            exact hK.out _ _ (hJ.pure (gb_refl _ _) rfl rfl)
          · intro l t w7 hJ hl hd bb hbb K hK
            have e18 := hJ.val 18 _ rfl (hd 18 (by kernel_rfl))
            simp only [puts, Act.put, List.setIfInBounds_toArray, List.set_cons_zero, List.set_cons_succ] at hbb
            rw [e18] at hbb
            subst hbb
            go_simp
            exact hK.out _ _ (hJ.pure (gb_refl _ _) rfl rfl)
        intro l t w6 hJ hl
        have e19 := hJ.val 19 _ rfl (hl 19 (by decide))
        have HR6 := hid (gb_trans HR5.out hJ.gb)
        have HG6 := hid hJ.gb
        clear hJ hl
        simp only [puts, Act.put, List.setIfInBounds_toArray, List.set_cons_zero, List.set_cons_succ]
        rw [e19]
        clear e19
        go_wp2_with fail
        refine wp_region_inv (JV w6 [some (vI 4 Xd0 Yd0 Xd1 Yd1 Ad n cd), some ((.int .i64 (Xd0 + (c : Int)))), some ((.int .i64 (Yd0 + (j : Int)))), some (v4i (dd 0) (dd 1) (dd 2) (dd 3)), some (vI ks X0 Y0 X1 Y1 As n' cs), some (.pointer (some ⟨(w.heap.size + 1 + 1), 0, none⟩)), some (.int .i64 p0), some ((.int .i64 (Xd0 + (c : Int)))), some (.int .i64 (p0 + (Xd0 + (c : Int)))), some (.pointer (some ⟨(w.heap.size + 1), 0, none⟩)), some (.int .i64 b0), some (.int .i64 (p0 + (Xd0 + (c : Int)) - b0)), some (.pointer (some ⟨(w.heap.size + 1 + 1), 1, none⟩)), some (.int .i64 p1), some ((.int .i64 (Yd0 + (j : Int)))), some (.int .i64 (p1 + (Yd0 + (j : Int)))), some (.pointer (some ⟨(w.heap.size + 1), 1, none⟩)), some (.int .i64 b1), some (.int .i64 (p1 + (Yd0 + (j : Int)) - b1)), some (v4i (ss 0) (ss 1) (ss 2) (ss 3)), some (.int .i64 (mv 3)), some (.int .i64 op), some (v4i E0 E1 E2 E3), none, none] [(23, 24, [.int .i64 E0, .int .i64 E1, .int .i64 E2, .int .i64 E3])]) (fun _ => undef) (by kernel_rfl) (by kernel_rfl) [(0, 103), (1, 104), (2, 105), (3, 106), (4, 107), (5, 108), (6, 109), (7, 110), (8, 111), (9, 112), (10, 113), (11, 114), (12, 115), (13, 116), (14, 117), (15, 118), (16, 119), (17, 120), (18, 121), (19, 122), (20, 123), (21, 124), (22, 125), (23, 26)] (by kernel_rfl) (JV.start (by (repeat (first | exact gb_refl _ _ | assumption | refine gb_drew ?_ | refine gb_drewN ?_ _ | refine gb_alloc ?_ _ | refine gb_setCell ?_ (.inr (by simp <;> omega)) _)))) ?_ ?_
        · refine Steps'.cons [] (by kernel_rfl) ?_ (Steps'.cons [] (by kernel_rfl) ?_ (Steps'.cons [] (by kernel_rfl) ?_ (Steps'.cons [(0, 103), (1, 104), (2, 105)] (by kernel_rfl) ?_ (Steps'.cons [] (by kernel_rfl) ?_ (Steps'.cons [] (by kernel_rfl) ?_ (Steps'.cons [(5, 108)] (by kernel_rfl) ?_ (Steps'.cons [] (by kernel_rfl) ?_ (Steps'.cons [(6, 109), (7, 110)] (by kernel_rfl) ?_ (Steps'.cons [] (by kernel_rfl) ?_ (Steps'.cons [(9, 112)] (by kernel_rfl) ?_ (Steps'.cons [(8, 111), (10, 113)] (by kernel_rfl) ?_ (Steps'.cons [] (by kernel_rfl) ?_ (Steps'.cons [(12, 115)] (by kernel_rfl) ?_ (Steps'.cons [] (by kernel_rfl) ?_ (Steps'.cons [(13, 116), (14, 117)] (by kernel_rfl) ?_ (Steps'.cons [] (by kernel_rfl) ?_ (Steps'.cons [(16, 119)] (by kernel_rfl) ?_ (Steps'.cons [(15, 118), (17, 120)] (by kernel_rfl) ?_ (Steps'.cons [(4, 107), (11, 114), (18, 121)] (by kernel_rfl) ?_ (Steps'.cons [] (by kernel_rfl) ?_ (Steps'.cons [] (by kernel_rfl) ?_ (Steps'.cons [(3, 106), (19, 122), (20, 123), (21, 124)] (by kernel_rfl) ?_ (Steps'.cons [] (by kernel_rfl) ?_ (Steps'.cons [(22, 125), (23, 26)] (by kernel_rfl) ?_ (Steps'.nil)))))))))))))))))))))))))
          · intro l t w7 hJ hl hd bb hbb K hK
            have f0 := (HgD.out.kept0 (gb_trans HR6.out hJ.gb)) 0 _ rfl
            have f1 := (HgD.out.kept0 (gb_trans HR6.out hJ.gb)) 1 _ rfl
            have f2 := (HgD.out.kept0 (gb_trans HR6.out hJ.gb)) 2 _ rfl
            have f3 := (HgD.out.kept0 (gb_trans HR6.out hJ.gb)) 3 _ rfl
            have f4 := (HgD.out.kept0 (gb_trans HR6.out hJ.gb)) 4 _ rfl
            have f5 := (HgD.out.kept0 (gb_trans HR6.out hJ.gb)) 5 _ rfl
            simp only [puts, Act.put, List.setIfInBounds_toArray, List.set_cons_zero, List.set_cons_succ] at hbb
            subst hbb
            go_simp
            exact hK.out _ _ (hJ.pure (gb_refl _ _) rfl rfl)
          · intro l t w7 hJ hl hd bb hbb K hK
            simp only [puts, Act.put, List.setIfInBounds_toArray, List.set_cons_zero, List.set_cons_succ] at hbb
            subst hbb
            go_simp
            exact hK.out _ _ (hJ.pure (gb_refl _ _) rfl rfl)
          · intro l t w7 hJ hl hd bb hbb K hK
            simp only [puts, Act.put, List.setIfInBounds_toArray, List.set_cons_zero, List.set_cons_succ] at hbb
            subst hbb
            go_simp
            exact hK.out _ _ (hJ.pure (gb_refl _ _) rfl rfl)
          · intro l t w7 hJ hl hd bb hbb K hK
            have e0 := hJ.val 0 _ rfl (hd 0 (by kernel_rfl))
            have e1 := hJ.val 1 _ rfl (hd 1 (by kernel_rfl))
            have e2 := hJ.val 2 _ rfl (hd 2 (by kernel_rfl))
            simp only [puts, Act.put, List.setIfInBounds_toArray, List.set_cons_zero, List.set_cons_succ] at hbb
            rw [e0] at hbb
            rw [e1] at hbb
            rw [e2] at hbb
            subst hbb
            go_simp
            refine (at_c (k := 4) (sh := dh) (sw := dw) (r := j) (c := c) _ (HD.out.1.kept0 (gb_trans HG.out (gb_trans HR6.out hJ.gb))) HD.out.2.1 HD.out.2.2.1 HD.out.2.2.2 (.inr ⟨by decide, by have := HGD.out.1; omega, HGD.out.2.2.1, HGD.out.2.2.2.1, HGD.out.2.2.2.2.1, by omega, by omega, by omega, by omega⟩) (.inr ⟨by omega, by omega, hlc, hlt⟩) HP2.out.2.1).mono ?_
            rintro e w8 ⟨rfl, hg⟩
            exact hK.out _ _ (hJ.pure hg rfl rfl)
          · intro l t w7 hJ hl hd bb hbb K hK
            have f0 := (HgS.out.kept0 (gb_trans HR6.out hJ.gb)) 0 _ rfl
            have f1 := (HgS.out.kept0 (gb_trans HR6.out hJ.gb)) 1 _ rfl
            have f2 := (HgS.out.kept0 (gb_trans HR6.out hJ.gb)) 2 _ rfl
            have f3 := (HgS.out.kept0 (gb_trans HR6.out hJ.gb)) 3 _ rfl
            have f4 := (HgS.out.kept0 (gb_trans HR6.out hJ.gb)) 4 _ rfl
            have f5 := (HgS.out.kept0 (gb_trans HR6.out hJ.gb)) 5 _ rfl
            simp only [puts, Act.put, List.setIfInBounds_toArray, List.set_cons_zero, List.set_cons_succ] at hbb
            subst hbb
            go_simp
            exact hK.out _ _ (hJ.pure (gb_refl _ _) rfl rfl)
          · intro l t w7 hJ hl hd bb hbb K hK
            simp only [puts, Act.put, List.setIfInBounds_toArray, List.set_cons_zero, List.set_cons_succ] at hbb
            subst hbb
            go_simp
            exact hK.out _ _ (hJ.pure (gb_refl _ _) rfl rfl)
          · intro l t w7 hJ hl hd bb hbb K hK
            have f0 := (HP.out.kept0 (gb_trans HR6.out hJ.gb)) 0 _ rfl
            have f1 := (HP.out.kept0 (gb_trans HR6.out hJ.gb)) 1 _ rfl
            have e5 := hJ.val 5 _ rfl (hd 5 (by kernel_rfl))
            simp only [puts, Act.put, List.setIfInBounds_toArray, List.set_cons_zero, List.set_cons_succ] at hbb
            rw [e5] at hbb
            subst hbb
            go_simp
            exact hK.out _ _ (hJ.pure (gb_refl _ _) rfl rfl)
          · intro l t w7 hJ hl hd bb hbb K hK
            simp only [puts, Act.put, List.setIfInBounds_toArray, List.set_cons_zero, List.set_cons_succ] at hbb
            subst hbb
            go_simp
            exact hK.out _ _ (hJ.pure (gb_refl _ _) rfl rfl)
          · intro l t w7 hJ hl hd bb hbb K hK
            have bb1 := HBp.out
            have wq : IntKind.i64.wrap (p0 + (Xd0 + (c : Int))) = p0 + (Xd0 + (c : Int)) := IntWalk.i64_in _ (by omega)
            have e6 := hJ.val 6 _ rfl (hd 6 (by kernel_rfl))
            have e7 := hJ.val 7 _ rfl (hd 7 (by kernel_rfl))
            simp only [puts, Act.put, List.setIfInBounds_toArray, List.set_cons_zero, List.set_cons_succ] at hbb
            rw [e6] at hbb
            rw [e7] at hbb
            subst hbb
            go_simp
            exact hK.out _ _ (hJ.pure (gb_refl _ _) rfl rfl)
          · intro l t w7 hJ hl hd bb hbb K hK
            simp only [puts, Act.put, List.setIfInBounds_toArray, List.set_cons_zero, List.set_cons_succ] at hbb
            subst hbb
            go_simp
            exact hK.out _ _ (hJ.pure (gb_refl _ _) rfl rfl)
          · intro l t w7 hJ hl hd bb hbb K hK
            have f0 := (HB.out.kept0 (gb_trans HR6.out hJ.gb)) 0 _ rfl
            have f1 := (HB.out.kept0 (gb_trans HR6.out hJ.gb)) 1 _ rfl
            have f2 := (HB.out.kept0 (gb_trans HR6.out hJ.gb)) 2 _ rfl
            have f3 := (HB.out.kept0 (gb_trans HR6.out hJ.gb)) 3 _ rfl
            have e9 := hJ.val 9 _ rfl (hd 9 (by kernel_rfl))
            simp only [puts, Act.put, List.setIfInBounds_toArray, List.set_cons_zero, List.set_cons_succ] at hbb
            rw [e9] at hbb
            subst hbb
            go_simp
            exact hK.out _ _ (hJ.pure (gb_refl _ _) rfl rfl)
          · intro l t w7 hJ hl hd bb hbb K hK
            have bb1 := HBp.out
            have wq : IntKind.i64.wrap (p0 + (Xd0 + (c : Int)) - b0) = p0 + (Xd0 + (c : Int)) - b0 := IntWalk.i64_in _ (by omega)
            have e8 := hJ.val 8 _ rfl (hd 8 (by kernel_rfl))
            have e10 := hJ.val 10 _ rfl (hd 10 (by kernel_rfl))
            simp only [puts, Act.put, List.setIfInBounds_toArray, List.set_cons_zero, List.set_cons_succ] at hbb
            rw [e8] at hbb
            rw [e10] at hbb
            subst hbb
            go_simp
            exact hK.out _ _ (hJ.pure (gb_refl _ _) rfl rfl)
          · intro l t w7 hJ hl hd bb hbb K hK
            simp only [puts, Act.put, List.setIfInBounds_toArray, List.set_cons_zero, List.set_cons_succ] at hbb
            subst hbb
            go_simp
            exact hK.out _ _ (hJ.pure (gb_refl _ _) rfl rfl)
          · intro l t w7 hJ hl hd bb hbb K hK
            have f0 := (HP.out.kept0 (gb_trans HR6.out hJ.gb)) 0 _ rfl
            have f1 := (HP.out.kept0 (gb_trans HR6.out hJ.gb)) 1 _ rfl
            have e12 := hJ.val 12 _ rfl (hd 12 (by kernel_rfl))
            simp only [puts, Act.put, List.setIfInBounds_toArray, List.set_cons_zero, List.set_cons_succ] at hbb
            rw [e12] at hbb
            subst hbb
            go_simp
            exact hK.out _ _ (hJ.pure (gb_refl _ _) rfl rfl)
          · intro l t w7 hJ hl hd bb hbb K hK
            simp only [puts, Act.put, List.setIfInBounds_toArray, List.set_cons_zero, List.set_cons_succ] at hbb
            subst hbb
            go_simp
            exact hK.out _ _ (hJ.pure (gb_refl _ _) rfl rfl)
          · intro l t w7 hJ hl hd bb hbb K hK
            have bb1 := HBp.out
            have wq : IntKind.i64.wrap (p1 + (Yd0 + (j : Int))) = p1 + (Yd0 + (j : Int)) := IntWalk.i64_in _ (by omega)
            have e13 := hJ.val 13 _ rfl (hd 13 (by kernel_rfl))
            have e14 := hJ.val 14 _ rfl (hd 14 (by kernel_rfl))
            simp only [puts, Act.put, List.setIfInBounds_toArray, List.set_cons_zero, List.set_cons_succ] at hbb
            rw [e13] at hbb
            rw [e14] at hbb
            subst hbb
            go_simp
            exact hK.out _ _ (hJ.pure (gb_refl _ _) rfl rfl)
          · intro l t w7 hJ hl hd bb hbb K hK
            simp only [puts, Act.put, List.setIfInBounds_toArray, List.set_cons_zero, List.set_cons_succ] at hbb
            subst hbb
            go_simp
            exact hK.out _ _ (hJ.pure (gb_refl _ _) rfl rfl)
          · intro l t w7 hJ hl hd bb hbb K hK
            have f0 := (HB.out.kept0 (gb_trans HR6.out hJ.gb)) 0 _ rfl
            have f1 := (HB.out.kept0 (gb_trans HR6.out hJ.gb)) 1 _ rfl
            have f2 := (HB.out.kept0 (gb_trans HR6.out hJ.gb)) 2 _ rfl
            have f3 := (HB.out.kept0 (gb_trans HR6.out hJ.gb)) 3 _ rfl
            have e16 := hJ.val 16 _ rfl (hd 16 (by kernel_rfl))
            simp only [puts, Act.put, List.setIfInBounds_toArray, List.set_cons_zero, List.set_cons_succ] at hbb
            rw [e16] at hbb
            subst hbb
            go_simp
            exact hK.out _ _ (hJ.pure (gb_refl _ _) rfl rfl)
          · intro l t w7 hJ hl hd bb hbb K hK
            have bb1 := HBp.out
            have wq : IntKind.i64.wrap (p1 + (Yd0 + (j : Int)) - b1) = p1 + (Yd0 + (j : Int)) - b1 := IntWalk.i64_in _ (by omega)
            have e15 := hJ.val 15 _ rfl (hd 15 (by kernel_rfl))
            have e17 := hJ.val 17 _ rfl (hd 17 (by kernel_rfl))
            simp only [puts, Act.put, List.setIfInBounds_toArray, List.set_cons_zero, List.set_cons_succ] at hbb
            rw [e15] at hbb
            rw [e17] at hbb
            subst hbb
            go_simp
            exact hK.out _ _ (hJ.pure (gb_refl _ _) rfl rfl)
          · intro l t w7 hJ hl hd bb hbb K hK
            have e4 := hJ.val 4 _ rfl (hd 4 (by kernel_rfl))
            have e11 := hJ.val 11 _ rfl (hd 11 (by kernel_rfl))
            have e18 := hJ.val 18 _ rfl (hd 18 (by kernel_rfl))
            simp only [puts, Act.put, List.setIfInBounds_toArray, List.set_cons_zero, List.set_cons_succ] at hbb
            rw [e4] at hbb
            rw [e11] at hbb
            rw [e18] at hbb
            subst hbb
            go_simp
            refine (at_c _ (HS.out.1.kept0 (gb_trans HG.out (gb_trans HR6.out hJ.gb))) HS.out.2.1 HS.out.2.2.1 HS.out.2.2.2 HGS.out HP2.out.1 HP2.out.2.2).mono ?_
            rintro e w8 ⟨rfl, hg⟩
            exact hK.out _ _ (hJ.pure hg rfl rfl)
          · intro l t w7 hJ hl hd bb hbb K hK
            simp only [puts, Act.put, List.setIfInBounds_toArray, List.set_cons_zero, List.set_cons_succ] at hbb
            subst hbb
            go_simp
            exact hK.out _ _ (hJ.pure (gb_refl _ _) rfl rfl)
          · intro l t w7 hJ hl hd bb hbb K hK
            simp only [puts, Act.put, List.setIfInBounds_toArray, List.set_cons_zero, List.set_cons_succ] at hbb
            subst hbb
            go_simp
            exact hK.out _ _ (hJ.pure (gb_refl _ _) rfl rfl)
          · intro l t w7 hJ hl hd bb hbb K hK
            have e3 := hJ.val 3 _ rfl (hd 3 (by kernel_rfl))
            have e19 := hJ.val 19 _ rfl (hd 19 (by kernel_rfl))
            have e20 := hJ.val 20 _ rfl (hd 20 (by kernel_rfl))
            have e21 := hJ.val 21 _ rfl (hd 21 (by kernel_rfl))
            simp only [puts, Act.put, List.setIfInBounds_toArray, List.set_cons_zero, List.set_cons_succ] at hbb
            rw [e3] at hbb
            rw [e19] at hbb
            rw [e20] at hbb
            rw [e21] at hbb
            subst hbb
            go_simp
            refine (comp_c _ Hop.out (HC.out.1 0) (HC.out.1 1) (HC.out.1 2) (HC.out.1 3) (HC.out.2.1 0) (HC.out.2.1 1) (HC.out.2.1 2) (HC.out.2.1 3) HC.out.2.2.1).mono ?_
            rintro e w8 ⟨rfl, hg⟩
            rw [HC.out.2.2.2.1, HC.out.2.2.2.2.1, HC.out.2.2.2.2.2.1, HC.out.2.2.2.2.2.2]
            exact hK.out _ _ (hJ.pure hg rfl rfl)
          · intro l t w7 hJ hl hd bb hbb K hK
            simp only [puts, Act.put, List.setIfInBounds_toArray, List.set_cons_zero, List.set_cons_succ] at hbb
            subst hbb
            go_simp
            exact hK.out _ _ (hJ.alloc (vsOK1 rfl) (C := #[.int .i64 0, .int .i64 0, .int .i64 0, .int .i64 0]) (s := 24) (vals := [.int .i64 E0, .int .i64 E1, .int .i64 E2, .int .i64 E3]) (by simp) rfl hl rfl rfl)
          · intro l t w7 hJ hl hd bb hbb K hK
            obtain ⟨g, eg, -, -, hc⟩ := hJ.open (a := 23) (s := 24) (vals := [.int .i64 E0, .int .i64 E1, .int .i64 E2, .int .i64 E3]) (by simp) (hd 23 (by kernel_rfl))
            obtain ⟨⟨u0, c0⟩, z0⟩ := hc 0 (by simp)
            obtain ⟨⟨u1, c1⟩, z1⟩ := hc 1 (by simp)
            obtain ⟨⟨u2, c2⟩, z2⟩ := hc 2 (by simp)
            obtain ⟨⟨u3, c3⟩, z3⟩ := hc 3 (by simp)
            have e22 := hJ.val 22 _ rfl (hd 22 (by kernel_rfl))
            simp only [puts, Act.put, List.setIfInBounds_toArray, List.set_cons_zero, List.set_cons_succ] at hbb
            rw [e22] at hbb
            rw [eg] at hbb
            subst hbb
            go_simp
            obtain ⟨y1, y2, y3⟩ := st4 c0 c1 c2 c3
            exact hK.out undef _ (hJ.store (u := undef) (vsOK1 rfl) (a := 23) (vals := [.int .i64 E0, .int .i64 E1, .int .i64 E2, .int .i64 E3]) (by simp) rfl (hd 23 (by kernel_rfl)) eg y1 y2 y3)
        intro l t w7 hJ hl
        obtain ⟨gE, e23, -, -, hgE⟩ := hJ.var (a := 23) (s := 24) (vals := [.int .i64 E0, .int .i64 E1, .int .i64 E2, .int .i64 E3]) (by simp) (hl 23 (by decide)) (hl 24 (by decide))
        have HR7 := hid (gb_trans HR6.out hJ.gb)
        have y0 := hgE 0 _ rfl
        have y1 := hgE 1 _ rfl
        have y2 := hgE 2 _ rfl
        have y3 := hgE 3 _ rfl
        have hd0 := (HA.out.kept0 HR7.out) 0 _ rfl
        have HC7 : Hid (∀ ch, ch < 8 → w7.cell? ((⟨ab, ao, ap⟩ : Addr).add ch) = some (.int .u8 (q (i' + ch)))) := hid (fun ch hch => (gb_cell0 (gb_trans (gb_trans HG5.out HG6.out) hJ.gb) (World.block_lt_of_cell? wr _ (Hcell.out ch hch))).trans (Hcell.out ch hch))
        clear hJ hl hgE
        simp only [puts, Act.put, List.setIfInBounds_toArray, List.set_cons_zero, List.set_cons_succ]
        rw [e23]
        clear e23
        go_wp2_with fail
        refine (near_4 _ (fun i => HQ.out.2.1 _) HC7.out HN.out.2.1 HN.out.2.2.1 HN.out.2.2.2.1 HN.out.2.2.2.2 HN.out.1).mono ?_
        rintro e w8 ⟨rfl, hg8⟩
        have HR8 := hid (gb_trans HR7.out hg8)
        clear hg8 y0 y1 y2 y3 hd0
        go_wp2_with fail
        exact ⟨⟨c + 1, i' + 8, by omega, by have h := Hi2.out; rw [← Nat.add_assoc, Nat.add_mul (j * dw + c) 1]; omega, by first | rfl | (congr 1; push_cast; omega), by first | rfl | (congr 1; push_cast; omega), (by (repeat (first | exact gb_refl _ _ | assumption | refine gb_drew ?_ | refine gb_drewN ?_ _ | refine gb_alloc ?_ _ | refine gb_setCell ?_ (.inr (by simp <;> omega)) _)))⟩, by have := HGX.out; simp [intOf]; omega⟩
      · go_wp2_with fail
        refine (shas_n b0 b1 b2 b3 _ _ _ hinb).mono ?_
        rintro e w5 ⟨rfl, hg5⟩
        have HR5 := hid (gb_trans HR.out hg5)
        obtain ⟨⟨db_, do_, dp_⟩, hAd, hdl, hdc⟩ := (HD.out.1.kept0 (gb_trans HG.out HR5.out)) (by omega)
        subst hAd
        obtain ⟨cd1, cd2⟩ := HD.out.2.2
        rcases hda : (⟨db_, do_, dp_⟩ : Addr).add i' with ⟨eb, eo, ep⟩
        obtain ⟨Z, hZ⟩ : ∃ Z, strOfNums (byL 8 (fun ch => q (i' + ch))) = Z := ⟨_, rfl⟩
        have v1z : ∀ k, (convert 22 9 (.slice (some ⟨ab, ao, ap⟩) 8 (cg - i'))).run Tryz.prog (w5.drewN k) = .ok (.string Z) (w5.drewN k) := by
          rw [← hZ]
          exact convNn _ (fun ch hch => (gb_cell0 hg5 (World.block_lt_of_cell? wr _ (Hcell.out ch hch))).trans (Hcell.out ch hch))
        have v2z : ∀ k, (convert 22 9 (.slice (some ⟨eb, eo, ep⟩) 8 (cd - i'))).run Tryz.prog (w5.drewN k) = .ok (.string Z) (w5.drewN k) := by
          rw [← hZ, byL_congr (g := fun ch => p (i' + ch)) (fun ch hch => by rw [Hi2.out]; exact HOut.out j c ch hlt hlc hch hinb)]
          exact convNn _ (fun ch hch => by rw [← hda, add_add]; exact hdc _ (by omega))
        have r3 : (i' : Int) + 8 ≤ (cd : Int) := by omega
        have r6 : ¬ (cd = i') := by omega
        have d5 := (HA.out.kept0 HR5.out) 5 _ rfl
        clear hdc hdl hZ hinb a1r a2r a3r a4r x0 x1 x2 x3
        go_wp2_with fail
        go_quiet (fail)
        go_wp2_with fail
        exact ⟨⟨c + 1, i' + 8, by omega, by have h := Hi2.out; rw [← Nat.add_assoc, Nat.add_mul (j * dw + c) 1]; omega, by first | rfl | (congr 1; push_cast; omega), by first | rfl | (congr 1; push_cast; omega), gb_drewN HR5.out _⟩, by have := HGX.out; simp [intOf]; omega⟩
    · have t2 : ¬ (Xd0 + (c : Int) < Xd1) := by omega
      have hcd : c = dw := by omega
      have HGY := hid gy
      clear hi' hgr gm gy gx
      go_wp2_with fail
      exact ⟨⟨j + 1, i', by omega, by have h := Hi2.out; rw [hcd] at h; rw [h, Nat.add_mul j 1 dw, Nat.one_mul], by first | rfl | (congr 1; push_cast; omega), rfl, HR.out⟩, by have := HGY.out; simp [intOf]; omega⟩
  · have t1 : ¬ (Yd0 + (j : Int) < Yd1) := by omega
    go_wp2_with fail
    go_ret
    exact ⟨rfl, gb_trans HG.out HR.out⟩
end Go.Proofs.YtgjpohmjkhgpfaaGreat
