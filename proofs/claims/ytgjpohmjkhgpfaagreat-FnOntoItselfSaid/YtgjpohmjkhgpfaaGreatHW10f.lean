/- image/draw: drawGrayMaskOver, forward: each pixel of the rectangle is composed through the mask, all others stay. The rectangle lies in the three images. -/
import Derived.Test.YtgjpohmjkhgpfaaGreatHW10a
import Derived.Test.YtgjpohmjkhgpfaaGreatHW11
set_option linter.unusedSimpArgs false
set_option linter.unusedVariables false
namespace Go.Proofs.YtgjpohmjkhgpfaaGreat
open Go.RowKit

/-- is the rectangle gone through backward? -/
def gback (ov : Bool) (x0 y0 spx spy : Int) : Bool := ov && (decide (spy < y0) || ((spy == y0) && decide (spx < x0)))
theorem gm_sum {d v m : Int} (hd : 0 ≤ d ∧ d ≤ 255) (hv : 0 ≤ v ∧ v ≤ 65535) (hm : 0 ≤ m ∧ m ≤ 255) : (d * ((65535 - m * 257) * 257) + v * (m * 257)) % 4294967296 / 65535 / 256 % 256 = (d * ((65535 - 65535 * (m * 257) / 65535) * 257) + v * (m * 257)) / 65535 / 256 := by
  have e : 65535 * (m * 257) / 65535 = m * 257 := Int.mul_ediv_cancel_left _ (by decide)
  rw [e]
  have h1 := rest8_le hd.1 hd.2 (show 0 ≤ 65535 - m * 257 by omega)
  have h2 : v * (m * 257) ≤ 65535 * (m * 257) := prod_le (by omega) hv.2
  have h3 : 0 ≤ v * (m * 257) := Int.mul_nonneg hv.1 (by omega)
  obtain ⟨Q, hQ⟩ : ∃ Q, d * ((65535 - m * 257) * 257) = Q := ⟨_, rfl⟩
  obtain ⟨P, hP⟩ : ∃ P, v * (m * 257) = P := ⟨_, rfl⟩
  rw [hQ] at h1 ⊢
  rw [hP] at h2 h3 ⊢
  omega
theorem gm_px {d s m : Nat → Int} {ch : Nat} (hc : ch ≠ 3) (hd : 0 ≤ d ch ∧ d ch ≤ 255) (hs : 0 ≤ s 0 ∧ s 0 ≤ 255) (hm : 0 ≤ m 0 ∧ m 0 ≤ 255) : (d ch * ((65535 - m 0 * 257) * 257) + s 0 * 257 * (m 0 * 257)) % 4294967296 / 65535 / 256 % 256 = pxM 0 3 2 0 d s m ch := by
  rw [mask_px, cl3, cl3, if_pos rfl, if_neg hc]
  exact gm_sum hd (by omega) hm
theorem gm_px3 {d s m : Nat → Int} (hd : 0 ≤ d 3 ∧ d 3 ≤ 255) (hm : 0 ≤ m 0 ∧ m 0 ≤ 255) : (d 3 * ((65535 - m 0 * 257) * 257) + 65535 * (m 0 * 257)) % 4294967296 / 65535 / 256 % 256 = pxM 0 3 2 0 d s m 3 := by
  rw [mask_px, cl3, if_pos rfl]
  exact gm_sum hd (by omega) hm
theorem box8 {w w' : World} {b b' b'' : Nat} {x0 y0 x1 y1 spx spy mpx mpy : Int} (h : w.cell? ⟨b, 0, none⟩ = some (.int .i64 x0) ∧ w.cell? ⟨b, 1, none⟩ = some (.int .i64 y0) ∧ w.cell? ⟨b, 2, none⟩ = some (.int .i64 x1) ∧ w.cell? ⟨b, 3, none⟩ = some (.int .i64 y1) ∧ w.cell? ⟨b', 0, none⟩ = some (.int .i64 spx) ∧ w.cell? ⟨b', 1, none⟩ = some (.int .i64 spy) ∧ w.cell? ⟨b'', 0, none⟩ = some (.int .i64 mpx) ∧ w.cell? ⟨b'', 1, none⟩ = some (.int .i64 mpy)) (hg : w.grownBy w' none) : w'.cell? ⟨b, 0, none⟩ = some (.int .i64 x0) ∧ w'.cell? ⟨b, 1, none⟩ = some (.int .i64 y0) ∧ w'.cell? ⟨b, 2, none⟩ = some (.int .i64 x1) ∧ w'.cell? ⟨b, 3, none⟩ = some (.int .i64 y1) ∧ w'.cell? ⟨b', 0, none⟩ = some (.int .i64 spx) ∧ w'.cell? ⟨b', 1, none⟩ = some (.int .i64 spy) ∧ w'.cell? ⟨b'', 0, none⟩ = some (.int .i64 mpx) ∧ w'.cell? ⟨b'', 1, none⟩ = some (.int .i64 mpy) := by
  obtain ⟨a0, a1, a2, a3, a4, a5, a6, a7⟩ := h
  have k := fun {b i : Nat} {v : Value} (hc : w.cell? ⟨b, i, none⟩ = some v) => (gb_cell0 hg (p := ⟨b, i, none⟩) (World.block_lt_of_cell? w _ hc)).trans hc
  exact ⟨k a0, k a1, k a2, k a3, k a4, k a5, k a6, k a7⟩

set_option maxRecDepth 100000 in
set_option maxHeartbeats 8000000 in
theorem drawGrayMaskOver_f {bd pd dh dw bs ps sh sw bm pm mh mw rx ry xe ye sx sy mx my : Nat} {dx0 dy0 sx0 sy0 mx0 my0 x0 y0 x1 y1 spx spy mpx mpy : Int} {D S M : Nat → Nat → Nat → Int} {T1 T2 T3 : TypeId} (w : World)
    (Hd : Pic w bd T1 pd 4 dh dw dx0 dy0 D) (Hs : Pic w bs T2 ps 1 sh sw sx0 sy0 S) (Hm : Pic w bm T3 pm 1 mh mw mx0 my0 M) (hne2 : bs ≠ pd) (hne3 : ps ≠ pd) (hne4 : bm ≠ pd) (hne5 : pm ≠ pd) (hne6 : True)
    (HR : Rct x0 y0 x1 y1 dx0 dy0 rx ry xe ye dh dw) (HP : Plc spx spy sx0 sy0 sx sy rx ry xe ye sh sw) (HM : Plc mpx mpy mx0 my0 mx my rx ry xe ye mh mw) (hdir : gback (ovl x0 y0 x1 y1 (x0 + (spx - x0)) (y0 + (spy - y0)) (x1 + (spx - x0)) (y1 + (spy - y0))) x0 y0 spx spy = false) :
    Calls Tryz.prog 60 #[.pointer (some ⟨bd, 0, none⟩), vR x0 y0 x1 y1, .pointer (some ⟨bs, 0, none⟩), vP spx spy, .pointer (some ⟨bm, 0, none⟩), vP mpx mpy] w
      (Drawn w pd 4 dh dw rx ry xe ye (fun r c => pxM 0 3 2 0 (D r c) (S (sy + (r - ry)) (sx + (c - rx))) (M (my + (r - ry)) (mx + (c - rx)))) D) := by
  obtain ⟨nd, cd, st, d0, d1, d2, d3, -, -, b1, hpd, hnd, hst, hcd, hmx, hne, l7, l8, v1, v2, v3, v4, hB⟩ := Hd.cells
  obtain ⟨ns, cs, ss, s0, s1, s2, s3, -, -, b2, hps, hns, hss, hcs, hmx2, -, l9, l10, v5, v6, v7, v8, hBs⟩ := Hs.cells
  have q2 : ss ≤ 512 := by omega

  obtain ⟨nm, cm, sm', m0, m1, m2, m3, -, -, b3, hpm, hnm, hsm, hcm, hmx3, -, l11, l12, v9, v10, v11, v12, hBm⟩ := Hm.cells
  obtain ⟨e1, e2, e3, e4, l1, l2, l3, l4⟩ := HR
  obtain ⟨e5, e6, l5, l6⟩ := HP
  obtain ⟨e7, e8, l13, l14⟩ := HM
  have a1 : -4000 ≤ x0 ∧ x0 ≤ 4000 ∧ -4000 ≤ y0 ∧ y0 ≤ 4000 := by omega
  have a2 : -4000 ≤ x1 ∧ x1 ≤ 4000 ∧ -4000 ≤ y1 ∧ y1 ≤ 4000 := by omega
  have a3 : -4000 ≤ spx ∧ spx ≤ 4000 ∧ -4000 ≤ spy ∧ spy ≤ 4000 := by omega
  have a10 : -4000 ≤ mpx ∧ mpx ≤ 4000 ∧ -4000 ≤ mpy ∧ mpy ≤ 4000 := by omega
  have q1 : st ≤ 512 := by omega
  have q3 : sm' ≤ 512 := by omega
  obtain ⟨n, hn⟩ : ∃ n : Nat, xe - rx = n := ⟨_, rfl⟩
  obtain ⟨t, ht⟩ : ∃ t : Nat, ye - ry = t := ⟨_, rfl⟩
  have hn' : rx + n = xe := by omega
  have ht' : ry + t = ye := by omega
  have a4 : 0 < n ∧ n ≤ 128 := by omega
  have a5 : 0 < t ∧ t ≤ 128 := by omega
  have a6 : nd ≤ 65536 := by rw [hnd]; exact Nat.le_trans (Nat.mul_le_mul l8 q1) (by omega)
  obtain ⟨d00, hd0⟩ : ∃ d00 : Nat, ry * st + rx * 4 = d00 := ⟨_, rfl⟩
  have hd1 : ∀ j, j < t → d00 + j * st + n * 4 ≤ nd := by
    intro j hj
    have hh := pix_bound (h := dh) (wd := dw) (k := 4) (r := ry + j) (c := xe - 1) (ch := 3) (by omega) (by omega) (by omega)
    rw [hst, Nat.add_mul] at hh; rw [hnd]; omega
  have Hnd := hid hnd
  have Hst := hid hst
  have Hsm := hid hsm
  have Hd0 := hid hd0
  have HB := hid hB
  have HBm := hid hBm
  have Hn := hid (And.intro hn' ht')
  have Hd1 := hid hd1
  have Hpl := hid hpd.lt
  have HPD := hid hpd
  have HC := hid (And.intro d0 d1)
  have HHd := hid Hd
  have HHm := hid Hm
  have HHs := hid Hs
  have Hpm := hid hpm
  have Hss := hid hss
  have HBs := hid hBs
  have Hpsx := hid hps
  clear hns hss hBs hps
  obtain ⟨F, hF⟩ : ∃ F : Nat → Nat → Nat → Int, F = fun r c => pxM 0 3 2 0 (D r c) (S (sy + (r - ry)) (sx + (c - rx))) (M (my + (r - ry)) (mx + (c - rx))) := ⟨_, rfl⟩
  rw [← hF]
  have HF := hid hF
  clear hnd hst hsm hnm hd0 hB hBm Hd Hm Hs hn ht hn' ht' hd1 hF hpm hpd

  have Hdir := hid hdir
  clear hdir
  go_enter Tryz.func60, Tryz.ntmps60
  go_wp2
  go_quiet (fail)
  go_wp2
  go_quiet (fail)
  go_upto_region 3 with fail
  obtain ⟨ov, hov⟩ : ∃ ov, ovl x0 y0 x1 y1 (x0 + (spx - x0)) (y0 + (spy - y0)) (x1 + (spx - x0)) (y1 + (spy - y0)) = ov := ⟨_, rfl⟩
  have Hov := hid hov
  clear hov
  go_cut [59] (fun v wx => v = .bool ov ∧ (wx.cell? ⟨w.heap.size, 0, none⟩ = some (.int .i64 x0) ∧ wx.cell? ⟨w.heap.size, 1, none⟩ = some (.int .i64 y0) ∧ wx.cell? ⟨w.heap.size, 2, none⟩ = some (.int .i64 x1) ∧ wx.cell? ⟨w.heap.size, 3, none⟩ = some (.int .i64 y1) ∧ wx.cell? ⟨w.heap.size + 1, 0, none⟩ = some (.int .i64 spx) ∧ wx.cell? ⟨w.heap.size + 1, 1, none⟩ = some (.int .i64 spy) ∧ wx.cell? ⟨w.heap.size + 1 + 1, 0, none⟩ = some (.int .i64 mpx) ∧ wx.cell? ⟨w.heap.size + 1 + 1, 1, none⟩ = some (.int .i64 mpy)) ∧ w.grownBy wx none)
  case first =>
    as_aux_lemma =>
      go_region_held3 (fun W => W.cell? ⟨w.heap.size, 0, none⟩ = some (.int .i64 x0) ∧ W.cell? ⟨w.heap.size, 1, none⟩ = some (.int .i64 y0) ∧ W.cell? ⟨w.heap.size, 2, none⟩ = some (.int .i64 x1) ∧ W.cell? ⟨w.heap.size, 3, none⟩ = some (.int .i64 y1) ∧ W.cell? ⟨w.heap.size + 1, 0, none⟩ = some (.int .i64 spx) ∧ W.cell? ⟨w.heap.size + 1, 1, none⟩ = some (.int .i64 spy) ∧ W.cell? ⟨w.heap.size + 1 + 1, 0, none⟩ = some (.int .i64 mpx) ∧ W.cell? ⟨w.heap.size + 1 + 1, 1, none⟩ = some (.int .i64 mpy)) (first | (go_simp; done) | assumption)
        (first
        | (go_at_call 76; refine (sub_c spx spy x0 y0 _ (by unfold sm; omega) (by unfold sm; omega) (by unfold sm; omega) (by unfold sm; omega)).mono ?_; rintro e w2 ⟨rfl, hg⟩
           have hs2 := box8 (by assumption) hg
           have hB2 := gb_trans (a := w) (by (repeat (first | exact gb_refl _ _ | refine gb_drewN ?_ _ | refine gb_alloc ?_ _ | refine gb_drew ?_))) hg
           clear hg)
        | (go_at_call 75; refine (add_c x0 y0 x1 y1 (spx - x0) (spy - y0) _ (by unfold sm; omega) (by unfold sm; omega) (by unfold sm; omega) (by unfold sm; omega) (by unfold sm; omega) (by unfold sm; omega)).mono ?_; rintro e w3 ⟨rfl, hg⟩
           have hs3 := box8 (by assumption) hg
           have hB3 := gb_trans (a := w) (by (repeat (first | exact hB2 | refine gb_drew ?_))) hg
           clear hg)
        | (go_at_call 80; refine (overlaps_c x0 y0 x1 y1 (x0 + (spx - x0)) (y0 + (spy - y0)) (x1 + (spx - x0)) (y1 + (spy - y0)) _).mono ?_; rintro e w4 ⟨rfl, hg⟩; rw [Hov.out]
           have hs4 := box8 (by assumption) hg
           have hB4 := gb_trans (a := w) (by (repeat (first | exact hB3 | refine gb_drew ?_))) hg
           clear hg))
      all_goals (go_wp2_with fail; go_meet; exact ⟨rfl, by (first | exact hs4 | assumption), hB4⟩)
  case rest =>
  obtain ⟨rfl, hc8, hg3⟩ := hcut
  have HX3 := hid hg3
  clear hg3
  obtain ⟨wx, hwx⟩ : ∃ wx, wx = wc := ⟨_, rfl⟩
  subst hwx
  have HC8 := hid hc8
  obtain ⟨q0', q1', q2', q3', q4', q5', q6', q7'⟩ := hc8
  go_upto_if 59 with fail
  go_cut [12, 13, 14, 15, 16, 17] (fun u1 u2 u3 u4 u5 u6 wy => wy = wx ∧ ((gback ov x0 y0 spx spy = false ∧ u1 = .int .i64 x0 ∧ u2 = .int .i64 x1 ∧ u3 = .int .i64 1 ∧ u4 = .int .i64 y0 ∧ u5 = .int .i64 y1 ∧ u6 = .int .i64 1) ∨
      (gback ov x0 y0 spx spy = true ∧ u1 = .int .i64 (x1 - 1) ∧ u2 = .int .i64 (x0 - 1) ∧ u3 = .int .i64 (-1) ∧ u4 = .int .i64 (y1 - 1) ∧ u5 = .int .i64 (y0 - 1) ∧ u6 = .int .i64 (-1))))
  case first =>
    as_aux_lemma =>
      cases ov
      · go_wp2_with fail
        go_meet
        exact ⟨rfl, .inl ⟨rfl, rfl, rfl, rfl, rfl, rfl, rfl⟩⟩
      · by_cases h1 : spy < y0
        · go_wp2_with fail
          go_meet
          exact ⟨rfl, .inr ⟨by unfold gback; simp [h1], rfl, rfl, rfl, rfl, rfl, rfl⟩⟩
        · obtain ⟨bq, h2⟩ : ∃ b : Bool, (spy == y0) = b := ⟨_, rfl⟩
          cases bq
          · go_wp2_with fail
            go_meet
            exact ⟨rfl, .inl ⟨by unfold gback; rw [h2]; simp [h1], rfl, rfl, rfl, rfl, rfl, rfl⟩⟩
          · by_cases h3 : spx < x0
            · go_wp2_with fail
              go_meet
              exact ⟨rfl, .inr ⟨by unfold gback; rw [h2]; simp [h3], rfl, rfl, rfl, rfl, rfl, rfl⟩⟩
            · go_wp2_with fail
              go_meet
              exact ⟨rfl, .inl ⟨by unfold gback; rw [h2]; simp [h1, h3], rfl, rfl, rfl, rfl, rfl, rfl⟩⟩
  case rest =>
  obtain ⟨wy, hwy⟩ : ∃ wy, wy = wc := ⟨_, rfl⟩
  subst hwy
  obtain ⟨rfl, hcut⟩ := hcut
  have HX0 := hid HX3.out
  have hdir' := Hdir.out
  rw [Hov.out] at hdir'
  clear Hov HX3 HC8 Hdir
  rcases hcut with ⟨hb, rfl, rfl, rfl, rfl, rfl, rfl⟩ | ⟨hb, rfl, rfl, rfl, rfl, rfl, rfl⟩
  · clear hb hdir'
    have E3 : x1 - x0 = (n : Int) := by have := Hn.out; omega
    have E5 : x0 + (n : Int) = x1 := by have := Hn.out; omega
    have E6 : y0 + (t : Int) = y1 := by have := Hn.out; omega
    go_wp2_with fail
    refine Calls.mono (off_RGBA bd st ry rx d00 _ _ _ _ _ ((gb_cell0 (a := w) HX0.out b1).trans d1) ((gb_cell0 (a := w) HX0.out b1).trans d2) ((gb_cell0 (a := w) HX0.out b1).trans d3) (by omega) (by omega) (by omega) (by omega) (by omega) Hd0.out.symm) ?_
    rintro e w1 ⟨rfl, hg1⟩
    have HGB : Hid (w.grownBy w1 none) := hid (gb_trans HX0.out hg1)
    clear d0 d1 d2 d3 m0 m1 m2 m3 s0 s1 s2 s3
    go_wp2_with fail
    go_loopw [25, 18, 19, 23] (fun y u v z wr => ∃ (j : Nat) (b1 b2 b3 b4 : Int), j ≤ t ∧ b1 = y0 + (j : Int) ∧ b2 = spy + (j : Int) ∧ b3 = mpy + (j : Int) ∧ b4 = (d00 : Int) + (j : Int) * st ∧ y = .int .i64 b1 ∧ u = .int .i64 b2 ∧ v = .int .i64 b3 ∧ z = .int .i64 b4 ∧ w.grownBy wr (some pd) ∧
         PixI wr pd dh dw 4 (pt (fw rx xe ry j 0) F D)) (fun y _ _ _ _ => (y1 - intOf y).toNat)
    case atStart =>
      have hnt := Hn.out
      refine ⟨0, y0, spy, mpy, (d00 : Int), by omega, by omega, by omega, by omega, by simp, by first | rfl | (congr 1; omega), by first | rfl | (congr 1; omega), by first | rfl | (congr 1; omega), by first | rfl | (congr 1; omega), gb_weak HGB.out _, ?_⟩
      exact pt_start (PixI.kept HPD.out (gb_block0 HGB.out Hpl.out)) (fun r c _ _ => by unfold fw; omega)
    case round =>
    obtain ⟨j, b1', b2', b3', b4', hj, hb1, hb2, hb3, hb4, rfl, rfl, rfl, rfl, hgb, hg'⟩ := hrel
    by_cases hlt : j < t
    · obtain ⟨rr, hrr⟩ : ∃ rr : Nat, j = rr := ⟨_, rfl⟩
      have hrt : rr < t := by omega
      have hb1' : b1' = y0 + (rr : Int) := by omega
      have hb2' : b2' = spy + (rr : Int) := by omega
      have hb3' : b3' = mpy + (rr : Int) := by omega
      have h1 := Hd1.out rr hrt
      obtain ⟨p, hp⟩ : ∃ p : Nat, d00 + rr * st = p := ⟨_, rfl⟩
      have hb4' : b4' = (p : Int) := by rw [hb4, ← hp, ← hrr]; push_cast; rfl
      have hn4 : (d00 : Int) + ((j + 1 : Nat) : Int) * st = b4' + st := by rw [hb4]; push_cast; rw [Int.add_mul]; omega
      rw [hp] at h1
      have hn4' : (d00 : Int) + ((j + 1 : Nat) : Int) * st = (p : Int) + st := by rw [hn4, hb4']
      subst hb1' hb2' hb3' hb4'
      have hy1 : ¬ (y0 + (rr : Int) = y1) := by omega
      have hy2 : (y0 + (rr : Int) != y1) = true := by rw [bne_iff_ne]; exact hy1
      have Hn4 := hid hn4'
      have Hp := hid hp
      have Hrr := hid (And.intro hrr (And.intro hb1 (And.intro hb2 hb3)))
      clear hb1 hb2 hb3 hb4 hn4 hn4' hp hrr
      have D0 : wr.cell? ⟨bd, 0, none⟩ = some (.slice (some ⟨pd, 0, none⟩) nd cd) := (gb_cell hgb b1 hne).trans HC.out.1
      have D1 : wr.cell? ⟨bd, 1, none⟩ = some (.int .i64 st) := (gb_cell hgb b1 hne).trans HC.out.2
      go_wp2
      obtain ⟨wo, ho⟩ : ∃ wo : World, wo = wr := ⟨_, rfl⟩
      go_loopw [26, 27, 28] (fun u v z wr => ∃ (k : Nat) (g1 g2 g3 : Int), k ≤ n ∧ g1 = (p : Int) + (k : Int) * 4 ∧ g2 = spx + (k : Int) ∧ g3 = mpx + (k : Int) ∧ u = .int .i64 g1 ∧ v = .int .i64 g2 ∧ z = .int .i64 g3 ∧ w.grownBy wr (some pd) ∧ PixI wr pd dh dw 4 (pt (fw rx xe ry j k) F D)) (fun _ v _ _ => (spx + n - intOf v).toNat)
      case atStart => exact ⟨0, _, _, _, by omega, rfl, rfl, rfl, by first | (congr 1; omega) | (simp; omega) | simp, by first | (congr 1; omega) | (simp; omega) | simp, by first | (congr 1; omega) | (simp; omega) | simp, hgb, hg'⟩
      case round =>
      clear ho wo D0 D1 hg' hgb
      obtain ⟨k, g1', g2', g3', hk, hg1', hg2', hg3', rfl, rfl, rfl, hgb, hg⟩ := hrel
      by_cases hlti : k < n
      · obtain ⟨kk, hkk⟩ : ∃ kk : Nat, k = kk := ⟨_, rfl⟩
        have hkn : kk < n := by omega
        have he1 : g1' = ((p + kk * 4 : Nat) : Int) := by push_cast; omega
        have he2 : g2' = spx + (kk : Int) := by omega
        have he3 : g3' = mpx + (kk : Int) := by omega
        subst he1 he2 he3
        have hk1 : ¬ (spx + (kk : Int) = spx + n) := by omega
        have hk2 : ¬ (kk = n) := by omega
        have Hkk := hid (And.intro hkk (And.intro hg1' (And.intro hg2' hg3')))
        clear hkk hg1' hg2' hg3'
        have D0 : wr.cell? ⟨bd, 0, none⟩ = some (.slice (some ⟨pd, 0, none⟩) nd cd) := (gb_cell hgb b1 hne).trans HC.out.1
        have Mm : Pic wr bm T3 pm 1 mh mw mx0 my0 M := HHm.out.kept hgb hne4 hne5
        obtain ⟨dp, hdp⟩ : ∃ dp : Nat → Int, D (ry + rr) (rx + kk) = dp := ⟨_, rfl⟩
        obtain ⟨sp, hsp⟩ : ∃ sp : Nat → Int, S (sy + rr) (sx + kk) = sp := ⟨_, rfl⟩
        obtain ⟨mp, hmp⟩ : ∃ mp : Nat → Int, M (my + rr) (mx + kk) = mp := ⟨_, rfl⟩
        obtain ⟨mi, hmi⟩ : ∃ mi : Nat, (my + rr) * sm' + (mx + kk) * 1 = mi := ⟨_, rfl⟩
        have hFv : F (ry + rr) (rx + kk) = pxM 0 3 2 0 dp sp mp := by
          rw [HF.out]; dsimp only
          rw [hdp, show sy + (ry + rr - ry) = sy + rr by omega, show sx + (rx + kk - rx) = sx + kk by omega, hsp, show my + (ry + rr - ry) = my + rr by omega, show mx + (rx + kk - rx) = mx + kk by omega, hmp]
        have bdp : By dp := by rw [← hdp]; exact HB.out _ _
        have bmp : By mp := by rw [← hmp]; exact HBm.out _ _
        have hnt := Hn.out
        have hrr := Hrr.out.1
        have hkk := Hkk.out.1
        have hp1 : p = (ry + rr) * st + rx * 4 := by have := Hd0.out; rw [← Hp.out, Nat.add_mul]; omega
        have g20 : mx + kk < mw := by omega
        have g21 : my + rr < mh := by omega
        have M0 : wr.cell? ⟨pm, mi, none⟩ = some (.int .u8 (mp 0)) := by
          rw [← hmp]; exact Mm.px.cell g21 g20 (by omega) (by rw [← hmi, Hsm.out]; rfl)
        have hml : bm < wr.heap.size := Mm.lt
        have hmpl : pm < wr.heap.size := Mm.px.lt
        have k0 := hg.cell (r := ry + rr) (c := rx + kk) (ch := 0) (i := p + kk * 4) (by omega) (by omega) (by omega) (by rw [Hst.out, hp1]; omega)
        have k1 := hg.cell (r := ry + rr) (c := rx + kk) (ch := 1) (i := p + kk * 4 + 1) (by omega) (by omega) (by omega) (by rw [Hst.out, hp1]; omega)
        have k2 := hg.cell (r := ry + rr) (c := rx + kk) (ch := 2) (i := p + kk * 4 + 2) (by omega) (by omega) (by omega) (by rw [Hst.out, hp1]; omega)
        have k3 := hg.cell (r := ry + rr) (c := rx + kk) (ch := 3) (i := p + kk * 4 + 3) (by omega) (by omega) (by omega) (by rw [Hst.out, hp1]; omega)
        rw [pt_neg (by unfold fw; omega), hdp] at k0 k1 k2 k3
        have F0 := fun k => hg.free k
        have B0 := bdp 0; have B1 := bdp 1; have B2 := bdp 2; have B3 := bdp 3
        have G0 := bmp 0
        have o9 := or257 G0
        have g22 : mx + kk ≤ 128 := by omega
        have g23 : my + rr ≤ 128 := by omega
        have hpd2 := hg.lt
        have hbd2 : bd < wr.heap.size := by have := hgb.size; omega
        have Ms : Pic wr bs T2 ps 1 sh sw sx0 sy0 S := HHs.out.kept hgb hne2 hne3
        obtain ⟨si, hsi⟩ : ∃ si : Nat, (sy + rr) * ss + (sx + kk) * 1 = si := ⟨_, rfl⟩
        have bsp : By sp := by rw [← hsp]; exact HBs.out _ _
        have g24 : sx + kk < sw := by omega
        have g25 : sy + rr < sh := by omega
        have g26 : sx + kk ≤ 128 := by omega
        have g27 : sy + rr ≤ 128 := by omega
        obtain ⟨ns', cs', ss2, n0, n1, n2, n3, -, -, hsl, hpsx, hns2, hss2, hcs2, hcs3, -⟩ := Ms.cells
        have hssx : ss = ss2 := by rw [← hss2, Hss.out]
        subst hssx
        have hsn : si + 1 ≤ ns' := by
          have hh := pix_bound (h := sh) (wd := sw) (k := 1) (r := sy + rr) (c := sx + kk) (ch := 0) g25 g24 (by omega)
          rw [hss2] at hh; rw [hns2, ← hsi]; omega
        have hpsl := hpsx.lt
        have C0 : wr.cell? ⟨ps, si, none⟩ = some (.int .u8 (sp 0)) := by
          rw [← hsp]; exact hpsx.cell (r := sy + rr) (c := sx + kk) (ch := 0) g25 g24 (by omega) (by rw [hss2, ← hsi]; try omega)
        have O0 := or257 (show 0 ≤ sp 0 ∧ sp 0 ≤ 255 from bsp 0)
        have E0 := bsp 0; have E1 := bsp 1; have E2 := bsp 2; have E3' := bsp 3
        have Hsi := hid hsi
        have Hbs := hid bsp

        clear hns2 hss2 hsi hpsx Ms bsp
        have HFv := hid hFv
        have Hg := hid hg
        have Hp1 := hid hp1
        have Hmi := hid hmi
        have Hbd := hid bdp
        have Hbm := hid bmp
        obtain ⟨nm', cm', sm2, m0, m1, m2, m3, -, -, -, -, hnm2, hsm2, hcm2, hcm3, -⟩ := Mm.cells
        have hsmx : sm' = sm2 := by rw [← hsm2, Hsm.out]
        subst hsmx
        have hmn : mi < nm' := by
          have hh := pix_bound (h := mh) (wd := mw) (k := 1) (r := my + rr) (c := mx + kk) (ch := 0) g21 g20 (by omega)
          rw [hsm2] at hh; rw [hnm2, ← Hmi.out]; omega
        clear hnm2 hsm2
        clear hg hdp hsp hmp hmi bdp bmp hFv hp1 hnt hrr hkk Mm
        go_wp2_with fail
        refine (off_Alpha bm sm' (my + rr) (mx + kk) mi _ _ mx0 my0 _ (by go_simp) (by go_simp) (by go_simp) (by omega) (by omega) g22 g23 (by omega) Hmi.out.symm).mono ?_
        rintro e w1 ⟨rfl, hg1⟩
        obtain ⟨c1, f1⟩ := gb_rules hg1
        have z1 := hg1.size
        have t1 : bm < w1.heap.size := by omega
        have t2 : pm < w1.heap.size := by omega
        go_wp2_with fail
        refine Calls.mono (off_Gray bs ss (sy + rr) (sx + kk) si _ _ sx0 sy0 w1 ((gb_cell0 hg1 (p := ⟨bs, 1, none⟩) hsl).trans n1) ((gb_cell0 hg1 (p := ⟨bs, 2, none⟩) hsl).trans n2) ((gb_cell0 hg1 (p := ⟨bs, 3, none⟩) hsl).trans n3) (by omega) (by omega) g26 g27 (by omega) Hsi.out.symm) ?_
        rintro e w2 ⟨rfl, hg2⟩
        have hg12 := gb_trans hg1 hg2
        have C0' := (gb_cell0 hg12 (p := ⟨ps, si, none⟩) hpsl).trans C0
        have N0' := (gb_cell0 hg12 (p := ⟨bs, 0, none⟩) hsl).trans n0
        have hsl2 : bs < w2.heap.size := by have := hg12.size; omega
        clear n0 n1 n2 n3 C0
        have M0' := (gb_cell0 hg12 (p := ⟨pm, mi, none⟩) hmpl).trans M0
        have D0' := (gb_cell0 hg12 (p := ⟨bd, 0, none⟩) hbd2).trans D0
        have k0' := (gb_cell0 hg12 (p := ⟨pd, p + kk * 4, none⟩) hpd2).trans k0
        have k1' := (gb_cell0 hg12 (p := ⟨pd, p + kk * 4 + 1, none⟩) hpd2).trans k1
        have k2' := (gb_cell0 hg12 (p := ⟨pd, p + kk * 4 + 2, none⟩) hpd2).trans k2
        have k3' := (gb_cell0 hg12 (p := ⟨pd, p + kk * 4 + 3, none⟩) hpd2).trans k3
        have F0' : ∀ k, w2.frozen? ⟨pd, k, none⟩ = false := fun k => (gb_free0 hg12 (p := ⟨pd, k, none⟩) hpd2).trans (F0 k)
        have hgb2 := gb_trans' hgb hg12
        have hg2' := (Hg.out.kept (gb_block0 hg12 hpd2))
        have hpd3 := hg2'.lt
        have hbd3 : bd < w2.heap.size := by have := hg12.size; omega
        have Hg2 := hid hg2'
        have Hgb2 := hid hgb2
        clear c1 f1 M0 D0 k0 k1 k2 k3 F0 m0 m1 m2 m3 hg2' hgb hgb2 hg12 hg1 hg2
        obtain ⟨⟨x0a, x0b⟩, ⟨x1a, x1b⟩, ⟨x2a, x2b⟩⟩ := mask_small (s := sp 0 * 257) (a := 65535) B0 (by omega) (by omega) (by omega) G0
        obtain ⟨-, -, ⟨x4a, x4b⟩⟩ := mask_small (s := sp 0 * 257) (a := 65535) B1 (by omega) (by omega) (by omega) G0
        obtain ⟨-, -, ⟨x6a, x6b⟩⟩ := mask_small (s := sp 0 * 257) (a := 65535) B2 (by omega) (by omega) (by omega) G0
        obtain ⟨-, -, ⟨x8a, x8b⟩⟩ := mask_small (s := sp 0 * 257) (a := 65535) B3 (by omega) (by omega) (by omega) G0
        have HK := hid (And.intro (And.intro e1 (And.intro e2 (And.intro e3 e4))) (And.intro (And.intro e5 e6) (And.intro e7 e8)))
        have HL := hid (And.intro (And.intro l1 (And.intro l2 (And.intro l3 l4))) (And.intro g20 (And.intro g21 (And.intro hkn hrt))))
        clear e1 e2 e3 e4 e5 e6 e7 e8 l1 l2 l3 l4 l5 l6 l7 l8 l11 l12 l13 l14 v1 v2 v3 v4 v9 v10 v11 v12 a1 a2 E3 E5 E6 q1 q3 g20 g21 g22 g23 hk1 hk2 hne2 hne3 hne4 hne5 hrt hlt hlti hy1 hy2 z1 t1 t2 hml hmpl hpd2 hbd2 g24 g25 g26 g27 l9 l10 v5 v6 v7 v8
        have HALL := hid (And.intro Hkk (And.intro Hn (And.intro Hrr (And.intro Hgb2 (And.intro Hg2 (And.intro Hst (And.intro Hp1 (And.intro HFv HL))))))))
        clear Hkk Hn Hrr Hgb2 Hg2 Hst Hp1 HFv HK HL Hnd Hsm Hd0 HB HBm Hd1 Hpl HPD HC HHd HHm HHs Hpm HF HGB Hn4 Hp Hmi Hbd Hbm Hss HBs Hpsx Hsi Hbs
        go_wp2
        obtain ⟨Hkk, Hn, Hrr, Hgb2, Hg2, Hst, Hp1, HFv, HL⟩ := HALL.out
        obtain ⟨⟨l1, l2, l3, l4⟩, g20, g21, hkn, hrt⟩ := HL.out
        have hkk := Hkk.out
        have hnt := Hn.out
        have hrr := Hrr.out
        refine ⟨⟨k + 1, _, _, _, by omega, rfl, rfl, rfl, by first | rfl | (congr 1; push_cast; omega), by first | rfl | (congr 1; push_cast; omega), by first | rfl | (congr 1; push_cast; omega), ?_, ?_⟩, by simp [intOf]; omega⟩
        · exact gb_setCell (gb_setCell (gb_setCell (gb_setCell Hgb2.out (.inl rfl) _) (.inl rfl) _) (.inl rfl) _) (.inl rfl) _
        · refine pix4 (dn := fw rx xe ry j k) Hg2.out (r := ry + rr) (c := rx + kk) (by omega) (by omega) (by rw [Hst.out, Hp1.out]; omega) (fun r' c' => by unfold fw; omega) ?_ ?_ ?_ ?_
          all_goals rw [HFv.out]
          · exact gm_px (by omega) B0 E0 G0
          · exact gm_px (by omega) B1 E0 G0
          · exact gm_px (by omega) B2 E0 G0
          · exact gm_px3 B3 G0
      · have he1 : g1' = (p : Int) + n * 4 := by omega
        have he2 : g2' = spx + (n : Int) := by omega
        have hkn : k = n := by omega
        subst he2
        clear hg1' hg2' hg3'
        have D1 : wr.cell? ⟨bd, 1, none⟩ = some (.int .i64 st) := (gb_cell hgb b1 hne).trans HC.out.2
        go_wp2
        have hnt := Hn.out
        have hrr := Hrr.out
        exact ⟨⟨j + 1, _, _, _, _, by omega, rfl, rfl, rfl, Hn4.out.symm, by first | rfl | (congr 1; push_cast; omega), by first | rfl | (congr 1; push_cast; omega), by first | rfl | (congr 1; push_cast; omega), by first | rfl | (congr 1; push_cast; omega), hgb, pt_turn hg (fun r c _ _ => by unfold fw; omega)⟩, by simp [intOf]; omega⟩
    · have he : b1' = y1 := by omega
      subst he
      clear hb1 hb2 hb3 hb4
      go_wp2
      go_end0
      have hnt := Hn.out
      exact ⟨rfl, hgb, pt_turn hg' (fun r c _ _ => by unfold fw inR; omega)⟩
  · rw [hdir'] at hb
    cases hb
end Go.Proofs.YtgjpohmjkhgpfaaGreat
