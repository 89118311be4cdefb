/- Images: a pixel is set to a color that an interface holds, by the image itself and by one that hides its kind. The pixel lies in the image. -/
import Derived.Test.YtgjpohmjkhgpfaaGreatHSA
set_option linter.unusedSimpArgs false
set_option linter.unusedVariables false
namespace Go.Proofs.YtgjpohmjkhgpfaaGreat
open Go.RowKit
theorem held_kept {w w' : World} {b pb q n cap : Nat} {x : Value} (h : w.cell? ⟨b, 0, none⟩ = some (.slice (some ⟨pb, 0, none⟩) n cap) ∧ w.cell? ⟨pb, q, none⟩ = some x ∧ w.frozen? ⟨pb, q, none⟩ = false) (hg : w.grownBy w' none) :
    w'.cell? ⟨b, 0, none⟩ = some (.slice (some ⟨pb, 0, none⟩) n cap) ∧ w'.cell? ⟨pb, q, none⟩ = some x ∧ w'.frozen? ⟨pb, q, none⟩ = false :=
  ⟨(gb_cell0 hg (World.block_lt_of_cell? w _ h.1)).trans h.1, (gb_cell0 hg (World.block_lt_of_cell? w _ h.2.1)).trans h.2.1, (gb_free0 hg (World.block_lt_of_cell? w _ h.2.1)).trans h.2.2⟩
set_option maxRecDepth 100000 in
set_option maxHeartbeats 16000000 in
theorem set_Alpha {b T pb h wd r c : Nat} {x0 y0 x y : Int} {F D : Nat → Nat → Nat → Int} {dn dn' : Nat → Nat → Prop} {v : Nat → Int} {tc : TypeId} {cv : Value} (w : World) (H : Pic w b T pb 1 h wd x0 y0 (pt dn F D)) (e1 : x - x0 = c) (e2 : y - y0 = r) (hc : c < wd) (hr : r < h)
    (hv : ColW w v tc cv) (hF : F r c = cutN (sz 2) (en 2 v)) (hd : ∀ r' c', dn' r' c' ↔ (dn r' c' ∨ (r' = r ∧ c' = c))) :
    Calls Tryz.prog 149 #[.pointer (some ⟨b, 0, none⟩), .int .i64 x, .int .i64 y, .iface tc cv] w fun e w' => e = .returned (.tuple #[]) ∧ w.grownBy w' (some pb) ∧ Pic w' b T pb 1 h wd x0 y0 (pt dn' F D) := by
  obtain ⟨n, cap, st, D0, D1, D2, D3, D4, D5, bl, px, hn, hst, hcap, hcap2, hne, hw, hh, a1, a2, a3, a4, hB⟩ := H.cells
  have g1 : x0 ≤ x := by omega
  have g2 : x < x0 + wd := by omega
  have g3 : y0 ≤ y := by omega
  have g4 : y < y0 + h := by omega
  have g5 : st ≤ 1024 := by omega
  obtain ⟨q, hq⟩ : ∃ q : Nat, q = r * st + c * 1 := ⟨_, rfl⟩
  have hfit := pix_bound hr hc (show 1 - 1 < 1 by omega)
  rw [hst, ← hn] at hfit
  have hqn : q < n := by omega
  have hqn' : (q : Int) < (n : Int) := by omega
  have hq0 : (0 : Int) ≤ (q : Int) := by omega
  have bl2 := px.lt
  have g6 : c ≤ 128 := by omega
  have g7 : r ≤ 128 := by omega
  have B0 := hv.rg 0 (by omega)
  have B1 := hv.rg 1 (by omega)
  have B2 := hv.rg 2 (by omega)
  have B3 := hv.rg 3 (by omega)
  have Hq := hid hq
  have E1 := hid e1
  have E2 := hid e2
  have Hh := hid (And.intro hn hst)
  have HH := hid H
  have HF := hid hF
  have HV := hid hv
  have HD := hid hd
  have HP := hid px
  have HB := hid hB
  clear H hq e1 e2 hn hst px hB hF hv hd
  go_enter Tryz.func149, Tryz.ntmps149
  go_wp2_with fail
  refine (in_c x y x0 y0 (x0 + wd) (y0 + h) _ g1 g2 g3 g4).mono ?_
  rintro e v1 ⟨rfl, hg1⟩
  obtain ⟨c1, f1⟩ := gb_rules hg1
  have z1 : w.heap.size ≤ v1.heap.size := by exact hg1.size
  have t1 : b < v1.heap.size := by omega
  have t2 : pb < v1.heap.size := by omega
  go_wp2_with fail
  refine (off_Alpha b st r c q x y x0 y0 _ (by go_simp) (by go_simp) (by go_simp) E1.out E2.out g6 g7 g5 Hq.out).mono ?_
  rintro e v2 ⟨rfl, hg2⟩
  have HG2 := hid (gb_trans (gb_trans (gb_refl w none) hg1) hg2)
  clear c1 f1 hg1 hg2
  go_wp2_with fail
  have K2 := hid (HP.out.kept (gb_block0 HG2.out bl2))
  have z2 : w.heap.size ≤ v2.heap.size := HG2.out.size
  have t3 : b < v2.heap.size := by omega
  have t4 : pb < v2.heap.size := by omega
  have HD0 := hid D0
  have C0 : v2.cell? ⟨b, 0, none⟩ = some (.slice (some ⟨pb, 0, none⟩) n cap) := (gb_cell0 HG2.out bl).trans D0
  clear D0 D1 D2 D3 D4 D5
  go_region_held3 (fun W => W.cell? ⟨b, 0, none⟩ = some (.slice (some ⟨pb, 0, none⟩) n cap)) (first | go_simp | assumption)
    (first
    | (go_at_call 152; refine (mod2_c _).mono ?_; rintro e v3 ⟨rfl, hg3, hm3⟩
       have HG3 := hid (gb_trans (a := w) ((by (repeat (first | exact HG2.out | refine gb_drewN ?_ _ | refine gb_drew ?_)))) hg3)
       have HM3 := hid hm3
       have HS3 : v3.cell? ⟨b, 0, none⟩ = some (.slice (some ⟨pb, 0, none⟩) n cap) := (gb_cell0 HG3.out bl).trans HD0.out
       clear hg3 hm3)
    | (go_at_call 221; refine (conv2_c _ _ ((gb_cell0 (a := v3) (by (repeat (first | exact gb_refl _ _ | refine gb_drewN ?_ _ | refine gb_drew ?_))) (World.block_lt_of_cell? v3 _ HM3.out)).trans HM3.out) (HV.out.kept ((by (repeat (first | exact HG3.out | refine gb_drewN ?_ _ | refine gb_drew ?_)))))).mono ?_; rintro e v4 ⟨rfl, hg4⟩
       have HG4 := hid (gb_trans (a := w) ((by (repeat (first | exact HG3.out | refine gb_drewN ?_ _ | refine gb_drew ?_)))) hg4)
       have HS4 : v4.cell? ⟨b, 0, none⟩ = some (.slice (some ⟨pb, 0, none⟩) n cap) := (gb_cell0 HG4.out bl).trans HD0.out
       have KH := hid (HP.out.kept (gb_block0 HG4.out bl2))
       have K4 : v4.cell? ⟨pb, q, none⟩ = some (.int .u8 (pt dn F D r c 0)) := KH.out.cell (r := r) (c := c) (ch := 0) (i := q) hr hc (by omega) (by rw [Hh.out.2, Hq.out]; rfl)
       have F4 : v4.frozen? ⟨pb, q, none⟩ = false := KH.out.free q
       have z4 : pb < v4.heap.size := KH.out.lt
       have w3 : IntKind.u8.wrap (v 3 / 256) = v 3 / 256 := by rw [IntKind.wrap_u8]; omega
       clear hg4))
  all_goals (
    go_wp2_with fail
    have hgx := gb_setCell (gb_weak HG4.out (some pb)) (p := ⟨pb, q, none⟩) (.inl rfl) (.int .u8 (v 3 / 256))
    have P1 := pix1 KH.out (r := r) (c := c) (k0 := q) hr hc (by rw [Hh.out.2]; exact Hq.out) HD.out (v0 := v 3 / 256) (by rw [HF.out]; rfl)
    refine bodyPost_end (v := .tuple #[]) (by simp [results, Tryz.results149]) rfl ⟨rfl, (by first | exact hgx | exact gb_drew hgx | exact gb_drewN hgx _), ?_⟩
    exact HH.out.drewn (by first | exact hgx | exact gb_drew hgx | exact gb_drewN hgx _) (by first | exact P1 | exact PixI.drew P1 | exact P1.kept rfl) (by_pt HD.out HB.out (by rw [HF.out]; exact by_en (.inr (.inl rfl)) HV.out.rg)))

end Go.Proofs.YtgjpohmjkhgpfaaGreat
