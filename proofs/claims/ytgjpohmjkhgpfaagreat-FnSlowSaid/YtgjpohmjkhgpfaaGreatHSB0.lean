/- Images: a pixel is set to a color that an interface holds, by the image itself and by one that hides its kind. The pixel lies in the image. -/
import Derived.Test.YtgjpohmjkhgpfaaGreatHSA
set_option linter.unusedSimpArgs false
set_option linter.unusedVariables false
namespace Go.Proofs.YtgjpohmjkhgpfaaGreat
open Go.RowKit
set_option maxRecDepth 100000 in
set_option maxHeartbeats 16000000 in
theorem set_RGBA {b T pb h wd r c : Nat} {x0 y0 x y : Int} {F D : Nat → Nat → Nat → Int} {dn dn' : Nat → Nat → Prop} {v : Nat → Int} {tc : TypeId} {cv : Value} (w : World) (H : Pic w b T pb 4 h wd x0 y0 (pt dn F D)) (e1 : x - x0 = c) (e2 : y - y0 = r) (hc : c < wd) (hr : r < h)
    (hv : ColW w v tc cv) (hF : F r c = cutN (sz 0) (en 0 v)) (hd : ∀ r' c', dn' r' c' ↔ (dn r' c' ∨ (r' = r ∧ c' = c))) :
    Calls Tryz.prog 130 #[.pointer (some ⟨b, 0, none⟩), .int .i64 x, .int .i64 y, .iface tc cv] w fun e w' => e = .returned (.tuple #[]) ∧ w.grownBy w' (some pb) ∧ Pic w' b T pb 4 h wd x0 y0 (pt dn' F D) := by
  obtain ⟨n, cap, st, D0, D1, D2, D3, D4, D5, bl, px, hn, hst, hcap, hcap2, hne, hw, hh, a1, a2, a3, a4, hB⟩ := H.cells
  have g1 : x0 ≤ x := by omega
  have g2 : x < x0 + wd := by omega
  have g3 : y0 ≤ y := by omega
  have g4 : y < y0 + h := by omega
  have g5 : st ≤ 1024 := by omega
  obtain ⟨q, hq⟩ : ∃ q : Nat, q = r * st + c * 4 := ⟨_, rfl⟩
  have hfit := pix_bound hr hc (show 4 - 1 < 4 by omega)
  rw [hst, ← hn, ← hq] at hfit
  have bl2 := px.lt
  have g6 : c ≤ 128 := by omega
  have g7 : r ≤ 128 := by omega
  have B0 := hv.rg 0 (by omega)
  have B1 := hv.rg 1 (by omega)
  have B2 := hv.rg 2 (by omega)
  have B3 := hv.rg 3 (by omega)
  have Hq := hid hq
  have E1 := hid e1
  have E2 := hid e2
  have Hh := hid (And.intro hn hst)
  have HH := hid H
  have HF := hid hF
  have HV := hid hv
  have HD := hid hd
  have HP := hid px
  have HB := hid hB
  clear H hq e1 e2 hn hst px hB hF hv hd
  go_enter Tryz.func130, Tryz.ntmps130
  go_wp2_with fail
  refine (in_c x y x0 y0 (x0 + wd) (y0 + h) _ g1 g2 g3 g4).mono ?_
  rintro e v1 ⟨rfl, hg1⟩
  obtain ⟨c1, f1⟩ := gb_rules hg1
  have z1 : w.heap.size ≤ v1.heap.size := by exact hg1.size
  have t1 : b < v1.heap.size := by omega
  have t2 : pb < v1.heap.size := by omega
  go_wp2_with fail
  refine (off_RGBA b st r c q x y x0 y0 _ (by go_simp) (by go_simp) (by go_simp) E1.out E2.out g6 g7 g5 Hq.out).mono ?_
  rintro e v2 ⟨rfl, hg2⟩
  have HG2 := hid (gb_trans (gb_trans (gb_refl w none) hg1) hg2)
  clear c1 f1 hg1 hg2
  go_wp2_with fail
  refine (mod0_c _).mono ?_
  rintro e v3 ⟨rfl, hg3, hm3⟩
  have HG3 := hid (gb_trans HG2.out hg3)
  have HM3 := hid hm3
  clear hg3 hm3
  go_wp2_with fail
  refine (conv0_c _ _ HM3.out (HV.out.kept HG3.out)).mono ?_
  rintro e v4 ⟨rfl, hg4⟩
  have hgw := gb_trans HG3.out hg4
  have HGW := hid hgw
  have z4 : w.heap.size ≤ v4.heap.size := hgw.size
  have t3 : b < v4.heap.size := by omega
  have t4 : pb < v4.heap.size := by omega
  have K := hid (HP.out.kept (gb_block0 hgw bl2))
  have C0 : v4.cell? ⟨b, 0, none⟩ = some (.slice (some ⟨pb, 0, none⟩) n cap) := (gb_cell0 hgw bl).trans D0
  have hk : ∀ ch, ch < 4 → q + ch = r * (wd * 4) + c * 4 + ch := fun ch _ => by rw [Hh.out.2, Hq.out]
  have k0 := K.out.cell (r := r) (c := c) (ch := 0) (i := q) hr hc (by omega) (hk 0 (by omega))
  have k1 := K.out.cell (r := r) (c := c) (ch := 1) (i := q + 1) hr hc (by omega) (hk 1 (by omega))
  have k2 := K.out.cell (r := r) (c := c) (ch := 2) (i := q + 2) hr hc (by omega) (hk 2 (by omega))
  have k3 := K.out.cell (r := r) (c := c) (ch := 3) (i := q + 3) hr hc (by omega) (hk 3 (by omega))
  have F0 := fun k => K.out.free k
  have hpw : pb ≠ v4.heap.size := by omega
  have s1 : IntKind.i64.wrap ((q : Int) + 4) = (q : Int) + 4 := IntWalk.i64_in _ (by omega)
  have s2 : (0 : Int) ≤ (q : Int) + 4 := by omega
  have s3 : (q : Int) + 4 ≤ (cap : Int) := by omega
  have s4 : ((q : Int) + 4).toNat = q + 4 := by omega
  have s5 : (q : Int) ≤ (q : Int) + 4 := by omega
  clear D0 D1 D2 D3 D4 D5 hk hg4 hgw
  go_wp2_with fail
  have hgx : w.grownBy (((((v4.setCell ⟨pb, q, none⟩ (.int .u8 (v 0 / 256))).setCell ⟨pb, q + 1, none⟩ (.int .u8 (v 1 / 256))).setCell ⟨pb, q + 2, none⟩ (.int .u8 (v 2 / 256))).setCell ⟨pb, q + 3, none⟩ (.int .u8 (v 3 / 256))).alloc (.cells #[.int .u8 (v 0 / 256), .int .u8 (v 1 / 256), .int .u8 (v 2 / 256), .int .u8 (v 3 / 256)] 174)) (some pb) := by
    have h0 := gb_weak HGW.out (some pb)
    have h1 := gb_setCell h0 (p := ⟨pb, q, none⟩) (.inl rfl) (.int .u8 (v 0 / 256))
    have h2 := gb_setCell h1 (p := ⟨pb, q + 1, none⟩) (.inl rfl) (.int .u8 (v 1 / 256))
    have h3 := gb_setCell h2 (p := ⟨pb, q + 2, none⟩) (.inl rfl) (.int .u8 (v 2 / 256))
    have h4 := gb_setCell h3 (p := ⟨pb, q + 3, none⟩) (.inl rfl) (.int .u8 (v 3 / 256))
    exact gb_alloc h4 _
  have P4 := pix4 K.out (r := r) (c := c) (k0 := q) hr hc (by rw [Hh.out.2]; exact Hq.out) HD.out (v0 := v 0 / 256) (by rw [HF.out]; rfl) (v1 := v 1 / 256) (by rw [HF.out]; rfl) (v2 := v 2 / 256) (by rw [HF.out]; rfl) (v3 := v 3 / 256) (by rw [HF.out]; rfl)
  refine bodyPost_end (v := .tuple #[]) (by simp [results, Tryz.results130]) rfl ⟨rfl, hgx, ?_⟩
  exact HH.out.drewn hgx (P4.kept (gb_block0 (gb_alloc (gb_refl _ _) _) P4.lt)) (by_pt HD.out HB.out (by rw [HF.out]; exact by_en (.inl rfl) HV.out.rg))

end Go.Proofs.YtgjpohmjkhgpfaaGreat
