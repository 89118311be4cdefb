/- Parts of the proof: what the functions of the package and of the reference do (W9b). No condition but those that each theorem names. -/
import Derived.Test.YtgjpohmjkhgpfaaGreatD10
set_option linter.unusedSimpArgs false
set_option linter.unusedVariables false
namespace Go.Proofs.YtgjpohmjkhgpfaaGreat
open Go.RowKit

set_option maxRecDepth 100000 in
set_option maxHeartbeats 8000000 in
theorem drawCopyOver_b {bd pd dh dw bs ps sh sw rx ry xe ye sx sy : Nat} {dx0 dy0 sx0 sy0 x0 y0 x1 y1 spx : Int} {D S : Nat → Nat → Nat → Int} {T1 T2 : TypeId} (w : World)
    (Hd : Pic w bd T1 pd 4 dh dw dx0 dy0 D) (Hs : Pic w bs T2 ps 4 sh sw sx0 sy0 S) (hal : Al bd pd bs ps dh dw sh sw dx0 dy0 sx0 sy0 D S) (hpm : ∀ r c, Pm 0 (S r c))
    (HR : Rct x0 y0 x1 y1 dx0 dy0 rx ry xe ye dh dw) (HP : Plc spx y0 sx0 sy0 sx sy rx ry xe ye sh sw) (hdir : x0 ≤ spx) :
    Calls Tryz.prog 53 #[.pointer (some ⟨bd, 0, none⟩), vR x0 y0 x1 y1, .pointer (some ⟨bs, 0, none⟩), vP spx y0] w
      (Drawn w pd 4 dh dw rx ry xe ye (fun r c => px0 0 0 0 (D r c) (S (sy + (r - ry)) (sx + (c - rx)))) D) := by
  obtain ⟨nd, cd, st, d0, d1, d2, d3, -, -, b1, hpd, hnd, hst, hcd, hmx, hne, l7, l8, v1, v2, v3, v4, hB⟩ := Hd.cells
  obtain ⟨ns, cs, ss, s0, s1, s2, s3, -, -, b2, hps, hns, hss, hcs, hmx2, -, l9, l10, v5, v6, v7, v8, hBs⟩ := Hs.cells
  obtain ⟨e1, e2, e3, e4, l1, l2, l3, l4⟩ := HR
  obtain ⟨e5, e6, l5, l6⟩ := HP
  have a1 : -4000 ≤ x0 ∧ x0 ≤ 4000 ∧ -4000 ≤ y0 ∧ y0 ≤ 4000 := by omega
  have a2 : -4000 ≤ x1 ∧ x1 ≤ 4000 ∧ -4000 ≤ y1 ∧ y1 ≤ 4000 := by omega
  have a3 : -4000 ≤ spx ∧ spx ≤ 4000 := by omega
  have q1 : st ≤ 512 := by omega
  have q2 : ss ≤ 512 := by omega
  have hne2 : bs ≠ pd := hal.1
  obtain ⟨n, hn⟩ : ∃ n : Nat, xe - rx = n := ⟨_, rfl⟩
  obtain ⟨t, ht⟩ : ∃ t : Nat, ye - ry = t := ⟨_, rfl⟩
  have hn' : rx + n = xe := by omega
  have ht' : ry + t = ye := by omega
  have a4 : 0 < n ∧ n ≤ 128 := by omega
  have a5 : 0 < t ∧ t ≤ 128 := by omega
  have a6 : nd ≤ 65536 := by rw [hnd]; exact Nat.le_trans (Nat.mul_le_mul l8 q1) (by omega)
  have a7 : ns ≤ 65536 := by rw [hns]; exact Nat.le_trans (Nat.mul_le_mul l10 q2) (by omega)
  obtain ⟨d00, hd0⟩ : ∃ d00 : Nat, ry * st + rx * 4 = d00 := ⟨_, rfl⟩
  obtain ⟨s00, hs0⟩ : ∃ s00 : Nat, sy * ss + sx * 4 = s00 := ⟨_, rfl⟩
  have hd1 : ∀ j, j < t → d00 + j * st + n * 4 ≤ nd := by
    intro j hj
    have hh := pix_bound (h := dh) (wd := dw) (k := 4) (r := ry + j) (c := xe - 1) (ch := 3) (by omega) (by omega) (by omega)
    rw [hst, Nat.add_mul] at hh; rw [hnd]; omega
  have hs1 : ∀ j, j < t → s00 + j * ss + n * 4 ≤ ns := by
    intro j hj
    have hh := pix_bound (h := sh) (wd := sw) (k := 4) (r := sy + j) (c := sx + n - 1) (ch := 3) (by omega) (by omega) (by omega)
    rw [hss, Nat.add_mul] at hh; rw [hns]; omega
  have a8 := hd1 0 (by omega)
  have a9 := hs1 0 (by omega)
  have hAl := hal.alias hps
  have E3 : x1 - x0 = (n : Int) := by omega
  have E4 : y1 - y0 = (t : Int) := by omega
  have Hnd := hid hnd
  have Hns := hid hns
  have Hst := hid hst
  have Hss := hid hss
  have Hd0 := hid hd0
  have Hs0 := hid hs0
  have HB := hid hB
  have HBs := hid hBs
  have HHd := hid Hd
  have HHs := hid Hs
  have Hpm := hid hpm
  have Hn := hid (And.intro hn' ht')
  have Hd1 := hid hd1
  have Hs1 := hid hs1
  have Hal := hid hal
  have HAl := hid hAl
  have Hpl := hid hpd.lt
  have HC := hid (And.intro (And.intro d0 d1) (And.intro s0 s1))
  obtain ⟨F, hF⟩ : ∃ F : Nat → Nat → Nat → Int, F = fun r c => px0 0 0 0 (D r c) (S (sy + (r - ry)) (sx + (c - rx))) := ⟨_, rfl⟩
  rw [← hF]
  have HF := hid hF
  clear hnd hns hst hss hd0 hs0 hB hBs Hd Hs hpm hn ht hn' ht' hd1 hs1 hal hAl hF

  have g1 : True := trivial
  go_enter Tryz.func53, Tryz.ntmps53
  go_wp2
  go_region_held3 (fun w' => w'.cell? ⟨w.heap.size, 0, none⟩ = some (.int .i64 x0) ∧ w'.cell? ⟨w.heap.size, 1, none⟩ = some (.int .i64 y0) ∧ w'.cell? ⟨w.heap.size, 2, none⟩ = some (.int .i64 x1) ∧ w'.cell? ⟨w.heap.size, 3, none⟩ = some (.int .i64 y1)) (go_simp)
    (first
      | (go_at_call 64; refine (dx_c x0 y0 x1 y1 _ (by unfold sm; omega) (by unfold sm; omega)).mono ?_; rintro e w2 ⟨rfl, rfl⟩)
      | (go_at_call 77; refine (dy_c x0 y0 x1 y1 _ (by unfold sm; omega) (by unfold sm; omega)).mono ?_; rintro e w2 ⟨rfl, rfl⟩))
  go_wp2_with fail
  refine (off_RGBA bd st ry rx d00 _ _ _ _ _ ((gb_cell0 (a := w) (by (repeat (first | exact gb_refl _ _ | refine gb_drewN ?_ _ | refine gb_alloc ?_ _ | refine gb_drew ?_))) b1).trans d1) ((gb_cell0 (a := w) (by (repeat (first | exact gb_refl _ _ | refine gb_drewN ?_ _ | refine gb_alloc ?_ _ | refine gb_drew ?_))) b1).trans d2) ((gb_cell0 (a := w) (by (repeat (first | exact gb_refl _ _ | refine gb_drewN ?_ _ | refine gb_alloc ?_ _ | refine gb_drew ?_))) b1).trans d3) e1 e2 (by omega) (by omega) (by omega) Hd0.out.symm).mono ?_
  rintro e w1 ⟨rfl, hg1⟩
  obtain ⟨c1, f1⟩ := gb_rules hg1
  have z1 : w.heap.size + 1 < w1.heap.size := by have := hg1.size; simp at this; omega
  have t1 : bd < w1.heap.size := by omega
  have t2 : bs < w1.heap.size := by omega
  have HGA : Hid (w.grownBy w1 none) := hid (gb_trans (by (repeat (first | exact gb_refl _ _ | refine gb_drewN ?_ _ | refine gb_alloc ?_ _ | refine gb_drew ?_))) hg1)
  go_wp2_with fail
  refine (off_RGBA bs ss sy sx s00 _ _ _ _ _ ((gb_cell0 (a := w) (gb_trans HGA.out (by (repeat (first | exact gb_refl _ _ | refine gb_drewN ?_ _ | refine gb_alloc ?_ _ | refine gb_drew ?_)))) b2).trans s1) ((gb_cell0 (a := w) (gb_trans HGA.out (by (repeat (first | exact gb_refl _ _ | refine gb_drewN ?_ _ | refine gb_alloc ?_ _ | refine gb_drew ?_)))) b2).trans s2) ((gb_cell0 (a := w) (gb_trans HGA.out (by (repeat (first | exact gb_refl _ _ | refine gb_drewN ?_ _ | refine gb_alloc ?_ _ | refine gb_drew ?_)))) b2).trans s3) e5 e6 (by omega) (by omega) (by omega) Hs0.out.symm).mono ?_
  rintro e w2 ⟨rfl, hg2⟩
  obtain ⟨c2, f2⟩ := gb_rules hg2
  have z2 : w.heap.size + 1 < w2.heap.size := by have := hg2.size; omega
  have t3 : bd < w2.heap.size := by omega
  have t4 : bs < w2.heap.size := by omega
  have HGB : Hid (w.grownBy w2 none) := hid (gb_trans HGA.out hg2)
  have D0 : w2.cell? ⟨bd, 0, none⟩ = some (.slice (some ⟨pd, 0, none⟩) nd cd) := (gb_cell0 HGB.out b1).trans d0
  have D1 : w2.cell? ⟨bd, 1, none⟩ = some (.int .i64 st) := (gb_cell0 HGB.out b1).trans d1
  have S0 : w2.cell? ⟨bs, 0, none⟩ = some (.slice (some ⟨ps, 0, none⟩) ns cs) := (gb_cell0 HGB.out b2).trans s0
  have S1 : w2.cell? ⟨bs, 1, none⟩ = some (.int .i64 ss) := (gb_cell0 HGB.out b2).trans s1
  have A1 : Hid ((w.alloc (.cells #[.int .i64 x0, .int .i64 y0, .int .i64 x1, .int .i64 y1] 78)).grownBy w2 none) := hid (gb_trans (gb_trans (by (repeat (first | exact gb_refl _ _ | refine gb_drewN ?_ _ | refine gb_alloc ?_ _ | refine gb_drew ?_))) hg1) hg2)
  have A2 : Hid (((w.alloc (.cells #[.int .i64 x0, .int .i64 y0, .int .i64 x1, .int .i64 y1] 78)).alloc (.cells #[.int .i64 spx, .int .i64 y0] 76)).grownBy w2 none) := hid (gb_trans (gb_trans (by (repeat (first | exact gb_refl _ _ | refine gb_drewN ?_ _ | refine gb_alloc ?_ _ | refine gb_drew ?_))) hg1) hg2)
  have K0 : w2.cell? ⟨w.heap.size, 0, none⟩ = some (.int .i64 x0) := (gb_cell0 A1.out (by simp)).trans (by go_simp)
  have K1 : w2.cell? ⟨w.heap.size, 1, none⟩ = some (.int .i64 y0) := (gb_cell0 A1.out (by simp)).trans (by go_simp)
  have K2 : w2.cell? ⟨w.heap.size + 1, 0, none⟩ = some (.int .i64 spx) := (gb_cell0 A2.out (by simp)).trans (by go_simp)
  have K3 : w2.cell? ⟨w.heap.size + 1, 1, none⟩ = some (.int .i64 y0) := (gb_cell0 A2.out (by simp)).trans (by go_simp)
  clear c1 f1 c2 f2
  go_wp2_with fail
  clear D0 D1 S0 S1 d0 d1 s0 s1
  go_loopw [9, 10, 11] (fun y u v wr => ∃ (j : Nat) (a b : Int), j ≤ t ∧ a = (d00 : Int) + (j : Int) * st ∧ b = (s00 : Int) + (j : Int) * ss ∧ u = .int .i64 a ∧ v = .int .i64 b ∧ y = .int .i64 ((t - j : Nat) : Int) ∧ w.grownBy wr (some pd) ∧
       PixI wr pd dh dw 4 (pt (fw rx xe ry j 0) F D)) (fun y _ _ _ => (intOf y).toNat)
  case atStart =>
    have hn' := Hn.out
    refine ⟨0, (d00 : Int), (s00 : Int), by omega, by simp, by simp, by first | rfl | (congr 1; done), by first | rfl | (congr 1; done), by simp, gb_weak HGB.out _, ?_⟩
    exact pt_start (PixI.kept hpd (gb_block0 HGB.out hpd.lt)) (fun r c _ _ => by unfold fw; omega)
  case round =>
  obtain ⟨j, a, b, hj, ha, hb, rfl, rfl, rfl, hgb, hg'⟩ := hrel
  clear g1 hpd hps
  have D0 : wr.cell? ⟨bd, 0, none⟩ = some (.slice (some ⟨pd, 0, none⟩) nd cd) := (gb_cell hgb b1 hne).trans HC.out.1.1
  have D1 : wr.cell? ⟨bd, 1, none⟩ = some (.int .i64 st) := (gb_cell hgb b1 hne).trans HC.out.1.2
  have S0 : wr.cell? ⟨bs, 0, none⟩ = some (.slice (some ⟨ps, 0, none⟩) ns cs) := (gb_cell hgb b2 hne2).trans HC.out.2.1
  have S1 : wr.cell? ⟨bs, 1, none⟩ = some (.int .i64 ss) := (gb_cell hgb b2 hne2).trans HC.out.2.2
  by_cases hlt : j < t
  · have hjp : 0 < t - j := by omega
    have hq1 : (d00 : Int) + (j : Int) * st = (d00 + (j) * st : Nat) := by push_cast; rfl
    have hq2 : (s00 : Int) + (j : Int) * ss = (s00 + (j) * ss : Nat) := by push_cast; rfl
    rw [hq1] at ha
    rw [hq2] at hb
    have hn1 : (d00 : Int) + ((j + 1 : Nat) : Int) * st = a + st := by rw [ha, ← hq1]; push_cast; rw [Int.add_mul]; omega
    have hn2 : (s00 : Int) + ((j + 1 : Nat) : Int) * ss = b + ss := by rw [hb, ← hq2]; push_cast; rw [Int.add_mul]; omega
    have h1 := Hd1.out (j) (by omega)
    have h2 := Hs1.out (j) (by omega)
    obtain ⟨p, hp⟩ : ∃ p : Nat, d00 + (j) * st = p := ⟨_, rfl⟩
    obtain ⟨q, hq⟩ : ∃ q : Nat, s00 + (j) * ss = q := ⟨_, rfl⟩
    rw [hp] at ha h1
    rw [hq] at hb h2
    subst ha hb
    obtain ⟨rr, hrr⟩ : ∃ rr : Nat, j = rr := ⟨_, rfl⟩
    rw [hrr] at hp hq
    have hrt : rr < t := by omega
    have Hn1 := hid hn1
    have Hn2 := hid hn2
    have Hp := hid hp
    have Hq := hid hq
    have Hrr := hid hrr
    clear hq1 hq2 hn1 hn2 hp hq hrr
    go_wp2
    obtain ⟨wo, ho⟩ : ∃ wo : World, wo = wr := ⟨_, rfl⟩
    go_loopw [19] (fun u wr => ∃ (k : Nat) (e : Int), k ≤ n ∧ e = (k : Int) * 4 ∧ u = .int .i64 e ∧ w.grownBy wr (some pd) ∧ PixI wr pd dh dw 4 (pt (fw rx xe ry j k) F D)) (fun u _ => ((n : Int) * 4 - intOf u).toNat)
    case atStart => exact ⟨0, _, by omega, rfl, by simp, hgb, hg'⟩
    case round =>
    clear ho wo D0 D1 S0 S1 hg' hgb
    obtain ⟨k, e, hk, he, rfl, hgb, hg⟩ := hrel
    have D0 : wr.cell? ⟨bd, 0, none⟩ = some (.slice (some ⟨pd, 0, none⟩) nd cd) := (gb_cell hgb b1 hne).trans HC.out.1.1
    have D1 : wr.cell? ⟨bd, 1, none⟩ = some (.int .i64 st) := (gb_cell hgb b1 hne).trans HC.out.1.2
    have S0 : wr.cell? ⟨bs, 0, none⟩ = some (.slice (some ⟨ps, 0, none⟩) ns cs) := (gb_cell hgb b2 hne2).trans HC.out.2.1
    have S1 : wr.cell? ⟨bs, 1, none⟩ = some (.int .i64 ss) := (gb_cell hgb b2 hne2).trans HC.out.2.2
    by_cases hlti : k < n
    · obtain ⟨kk, hkk⟩ : ∃ kk : Nat, k = kk := ⟨_, rfl⟩
      have hkn : kk < n := by omega
      have he2 : e = (kk * 4 : Nat) := by rw [he]; push_cast; omega
      have hnext : ((k + 1 : Nat) : Int) * 4 = (kk : Int) * 4 + 4 := by omega
      subst he2
      have hk1 : ¬ ((kk : Int) * 4 = (n : Int) * 4) := by omega
      have hk2 : ¬ (kk = n) := by omega
      obtain ⟨dp, hdp⟩ : ∃ dp : Nat → Int, D (ry + rr) (rx + kk) = dp := ⟨_, rfl⟩
      obtain ⟨sp, hsp⟩ : ∃ sp : Nat → Int, S (sy + rr) (sx + kk) = sp := ⟨_, rfl⟩
      have hFv : F (ry + rr) (rx + kk) = px0 0 0 0 dp sp := by
        rw [HF.out]; dsimp only; rw [hdp, show sy + (ry + rr - ry) = sy + rr by omega, show sx + (rx + kk - rx) = sx + kk by omega, hsp]
      have bdp : By dp := by rw [← hdp]; exact HB.out _ _
      have bsp : By sp := by rw [← hsp]; exact HBs.out _ _
      have psp : Pm 0 sp := by rw [← hsp]; exact Hpm.out _ _
      have hnt := Hn.out
      have hrr := Hrr.out
      have hnd : ps = pd → ¬ (fw rx xe ry j k) (sy + rr) (sx + kk) := by
        intro e; have := Hal.out.dir e; unfold fw; omega
      have hq1 : q = (sy + rr) * ss + sx * 4 := by have := Hs0.out; rw [← Hq.out, Nat.add_mul]; omega
      have hp1 : p = (ry + rr) * st + rx * 4 := by have := Hd0.out; rw [← Hp.out, Nat.add_mul]; omega
      have C0 : wr.cell? ⟨ps, q + kk * 4, none⟩ = some (.int .u8 (sp 0)) := by
        rw [← hsp]; exact src_cell HAl.out hgb hg (r := sy + rr) (c := sx + kk) (ch := 0) (by omega) (by omega) (by omega) hnd (by rw [Hss.out, hq1]; omega)
      have C1 : wr.cell? ⟨ps, q + kk * 4 + 1, none⟩ = some (.int .u8 (sp 1)) := by
        rw [← hsp]; exact src_cell HAl.out hgb hg (r := sy + rr) (c := sx + kk) (ch := 1) (by omega) (by omega) (by omega) hnd (by rw [Hss.out, hq1]; omega)
      have C2 : wr.cell? ⟨ps, q + kk * 4 + 2, none⟩ = some (.int .u8 (sp 2)) := by
        rw [← hsp]; exact src_cell HAl.out hgb hg (r := sy + rr) (c := sx + kk) (ch := 2) (by omega) (by omega) (by omega) hnd (by rw [Hss.out, hq1]; omega)
      have C3 : wr.cell? ⟨ps, q + kk * 4 + 3, none⟩ = some (.int .u8 (sp 3)) := by
        rw [← hsp]; exact src_cell HAl.out hgb hg (r := sy + rr) (c := sx + kk) (ch := 3) (by omega) (by omega) (by omega) hnd (by rw [Hss.out, hq1]; omega)
      have k0 := hg.cell (r := ry + rr) (c := rx + kk) (ch := 0) (i := p + kk * 4) (by omega) (by omega) (by omega) (by rw [Hst.out, hp1]; omega)
      have k1 := hg.cell (r := ry + rr) (c := rx + kk) (ch := 1) (i := p + kk * 4 + 1) (by omega) (by omega) (by omega) (by rw [Hst.out, hp1]; omega)
      have k2 := hg.cell (r := ry + rr) (c := rx + kk) (ch := 2) (i := p + kk * 4 + 2) (by omega) (by omega) (by omega) (by rw [Hst.out, hp1]; omega)
      have k3 := hg.cell (r := ry + rr) (c := rx + kk) (ch := 3) (i := p + kk * 4 + 3) (by omega) (by omega) (by omega) (by rw [Hst.out, hp1]; omega)
      rw [pt_neg (by unfold fw; omega), hdp] at k0 k1 k2 k3
      have F0 := fun k => hg.free k
      have B0 := bdp 0; have B1 := bdp 1; have B2 := bdp 2; have B3 := bdp 3
      have E0 := bsp 0; have E1 := bsp 1; have E2 := bsp 2; have E3' := bsp 3
      have m0 := psp 0 (by omega); have m1 := psp 1 (by omega); have m2 := psp 2 (by omega)
      rw [cl0, cl0] at m0 m1 m2
      have Q0 := rest8_le B0.1 B0.2 (show 0 ≤ 65535 - sp 3 * 257 by omega)
      have Q1 := rest8_le B1.1 B1.2 (show 0 ≤ 65535 - sp 3 * 257 by omega)
      have Q2 := rest8_le B2.1 B2.2 (show 0 ≤ 65535 - sp 3 * 257 by omega)
      have Q3 := rest8_le B3.1 B3.2 (show 0 ≤ 65535 - sp 3 * 257 by omega)
      have HFv := hid hFv
      have Hg := hid hg
      have Hkk := hid (And.intro hkk hnext)
      have Hp1 := hid hp1
      clear hg hdp hsp bdp bsp psp hFv hnd hq1 hp1 hkk he hnext hnt hrr
      go_wp2
      have hkk := Hkk.out
      have hnt := Hn.out
      have hrr := Hrr.out
      refine ⟨⟨k + 1, _, by omega, rfl, ?_, ?_, ?_⟩, by simp [intOf]; omega⟩
      · rw [hkk.2]
        try (first | rfl | (congr 1; omega))
      · exact gb_setCell (gb_setCell (gb_setCell (gb_setCell hgb (.inl rfl) _) (.inl rfl) _) (.inl rfl) _) (.inl rfl) _
      · refine pix4 (dn := fw rx xe ry j k) Hg.out (r := ry + rr) (c := rx + kk) (by omega) (by omega) (by rw [Hst.out, Hp1.out]; omega) (fun r' c' => by unfold fw; omega) ?_ ?_ ?_ ?_
        all_goals (rw [HFv.out, copy_px])
    · have he2 : e = (n : Int) * 4 := by omega
      have hkn : k = n := by omega
      subst he2
      clear he
      go_wp2
      have hnt := Hn.out
      exact ⟨⟨j + 1, _, _, by omega, Hn1.out.symm, Hn2.out.symm, by first | rfl | (congr 1; omega), by first | rfl | (congr 1; omega), by congr 1; omega, hgb, pt_turn hg (fun r c _ _ => by unfold fw; omega)⟩, by simp [intOf]; omega⟩
  · have hjp : t - j = 0 := by omega
    go_wp2
    go_end0
    have hnt := Hn.out
    exact ⟨rfl, hgb, pt_turn hg' (fun r c _ _ => by unfold fw inR; omega)⟩
end Go.Proofs.YtgjpohmjkhgpfaaGreat
