/- image/draw: drawCopySrc: each pixel of the rectangle is copied, all others stay, from the image itself too. The rectangle lies in both images. -/
import Derived.Test.YtgjpohmjkhgpfaaGreatW6
import Derived.Test.YtgjpohmjkhgpfaaGreatC
import Derived.IntWalk
set_option linter.unusedSimpArgs false
set_option linter.unusedVariables false
namespace Go.Proofs.YtgjpohmjkhgpfaaGreat
open Go.RowKit

set_option maxRecDepth 100000 in
set_option maxHeartbeats 8000000 in
theorem drawCopySrc_c {pd dh dw ps sh sw rx ry xe ye sx sy nd cd ns cs st ss d0 s0 : Nat} {dx0 dy0 sx0 sy0 x0 y0 x1 y1 spx spy m : Int} {D S : Nat → Nat → Nat → Int} (w : World)
    (hpd : PixI w pd dh dw 4 D) (hal : Alias w pd ps dh dw sh sw 4 D S) (hdir : ps = pd → dx0 = sx0 ∧ dy0 = sy0)
    (HR : Rct x0 y0 x1 y1 dx0 dy0 rx ry xe ye dh dw) (HP : Plc spx spy sx0 sy0 sx sy rx ry xe ye sh sw)
    (l7 : dw ≤ 128) (l8 : dh ≤ 128) (l9 : sw ≤ 128) (l10 : sh ≤ 128) (v1 : -3000 ≤ dx0 ∧ dx0 ≤ 3000) (v2 : -3000 ≤ dy0 ∧ dy0 ≤ 3000) (v3 : -3000 ≤ sx0 ∧ sx0 ≤ 3000) (v4 : -3000 ≤ sy0 ∧ sy0 ≤ 3000)
    (hnd : nd = dh * st) (hst : dw * 4 = st) (hcd : nd ≤ cd) (hns : ns = sh * ss) (hss : sw * 4 = ss) (hcs : ns ≤ cs) (hd0 : d0 = ry * st + rx * 4) (hs0 : s0 = sy * ss + sx * 4) (hm : m = 4 * (x1 - x0)) :
    Calls Tryz.prog 63 #[.slice (some ⟨pd, d0, none⟩) (nd - d0) (cd - d0), .int .i64 st, vR x0 y0 x1 y1, .slice (some ⟨ps, s0, none⟩) (ns - s0) (cs - s0), .int .i64 ss, vP spx spy, .int .i64 m] w
      (Drawn w pd 4 dh dw rx ry xe ye (fun r c => S (sy + (r - ry)) (sx + (c - rx))) D) := by
  obtain ⟨e1, e2, e3, e4, l1, l2, l3, l4⟩ := HR
  obtain ⟨e5, e6, l5, l6⟩ := HP
  have a1 : -4000 ≤ x0 ∧ x0 ≤ 4000 ∧ -4000 ≤ y0 ∧ y0 ≤ 4000 := by omega
  have a2 : -4000 ≤ x1 ∧ x1 ≤ 4000 ∧ -4000 ≤ y1 ∧ y1 ≤ 4000 := by omega
  have a3 : -4000 ≤ spx ∧ spx ≤ 4000 ∧ -4000 ≤ spy ∧ spy ≤ 4000 := by omega
  have q1 : st ≤ 512 := by omega
  have q2 : ss ≤ 512 := by omega
  obtain ⟨F, hF⟩ : ∃ F : Nat → Nat → Nat → Int, F = fun r c => S (sy + (r - ry)) (sx + (c - rx)) := ⟨_, rfl⟩
  rw [← hF]
  obtain ⟨n, hn⟩ : ∃ n : Nat, xe - rx = n := ⟨_, rfl⟩
  obtain ⟨t, ht⟩ : ∃ t : Nat, ye - ry = t := ⟨_, rfl⟩
  have hm' : m = ((n * 4 : Nat) : Int) := by omega
  subst hm'
  clear hm
  have a4 : 0 < n ∧ n ≤ 128 := by omega
  have a6 : nd ≤ 65536 := by rw [hnd]; exact Nat.le_trans (Nat.mul_le_mul l8 q1) (by omega)
  have a7 : ns ≤ 65536 := by rw [hns]; exact Nat.le_trans (Nat.mul_le_mul l10 q2) (by omega)
  have a5 : 0 < t ∧ t ≤ 128 := by omega
  have hn' : rx + n = xe := by omega
  have ht' : ry + t = ye := by omega
  -- each row lies in both
  have hd1 : ∀ j, j < t → d0 + j * st + n * 4 ≤ nd := by
    intro j hj
    have hh := pix_bound (h := dh) (wd := dw) (k := 4) (r := ry + j) (c := xe - 1) (ch := 3) (by omega) (by omega) (by omega)
    rw [hst, Nat.add_mul] at hh; rw [hnd, hd0]; omega
  have hs1 : ∀ j, j < t → s0 + j * ss + n * 4 ≤ ns := by
    intro j hj
    have hh := pix_bound (h := sh) (wd := sw) (k := 4) (r := sy + j) (c := sx + n - 1) (ch := 3) (by omega) (by omega) (by omega)
    rw [hss, Nat.add_mul] at hh; rw [hns, hs0]; omega
  have e10 : y1 - y0 = (t : Int) := by omega
  have Hst := hid hst
  have Hss := hid hss
  have Hd0 := hid hd0
  have Hs0 := hid hs0
  have HF := hid hF
  have Hn := hid (And.intro hn' ht')
  clear hnd hst hns hss hd0 hs0 hn ht hF hn' ht'
  by_cases hback : y0 > spy
  · obtain ⟨m0, hm0⟩ : ∃ m0 : Nat, (t - 1) * st = m0 := ⟨_, rfl⟩
    obtain ⟨m1, hm1⟩ : ∃ m1 : Nat, (t - 1) * ss = m1 := ⟨_, rfl⟩
    have f1 : ((t : Int) - 1) * st = m0 := by rw [← hm0]; push_cast; rw [Int.ofNat_sub (by omega)]; rfl
    have f2 : ((t : Int) - 1) * ss = m1 := by rw [← hm1]; push_cast; rw [Int.ofNat_sub (by omega)]; rfl
    have g1 : m0 ≤ 65536 := by rw [← hm0]; exact Nat.le_trans (Nat.mul_le_mul (show t - 1 ≤ 128 by omega) q1) (by omega)
    have g2 : m1 ≤ 65536 := by rw [← hm1]; exact Nat.le_trans (Nat.mul_le_mul (show t - 1 ≤ 128 by omega) q2) (by omega)
    clear hm0 hm1
    go_enter Tryz.func63, Tryz.ntmps63
    go_wp2_with fail
    refine (dy_c x0 y0 x1 y1 _ (by unfold sm; omega) (by unfold sm; omega)).mono ?_
    rintro e w2 ⟨rfl, rfl⟩
    go_wp2_with fail
    go_loopw [14, 15, 18] (fun u v y wr => ∃ (j : Nat) (a b : Int), j ≤ t ∧ a = ((t : Int) - 1 - j) * st ∧ b = ((t : Int) - 1 - j) * ss ∧ u = .int .i64 a ∧ v = .int .i64 b ∧ y = .int .i64 ((t - j : Nat) : Int) ∧ w.grownBy wr (some pd) ∧
       PixI wr pd dh dw 4 (pt (bw rx xe ry ye j 0) F D)) (fun _ _ y _ => (intOf y).toNat)
    case atStart =>
      refine ⟨0, m0, m1, by omega, by rw [← f1]; simp, by rw [← f2]; simp, rfl, rfl, by simp, by (repeat (first | exact gb_refl _ _ | refine gb_drewN ?_ _ | refine gb_alloc ?_ _ | refine gb_drew ?_)), ?_⟩
      have hn' := Hn.out
      exact pt_start (by (repeat (first | exact hpd | refine PixI.drewN ?_ _ | refine PixI.alloc ?_ _ | refine PixI.drew ?_))) (fun r c _ _ => by unfold bw; omega)
    case round =>
    obtain ⟨j, a, b, hj, ha, hb, rfl, rfl, rfl, hgb, hg⟩ := hrel
    clear f1 f2
    by_cases hlt : j < t
    · have hjp : 0 < t - j := by omega
      have hq1 : ((t : Int) - 1 - j) * st = ((t - 1 - j : Nat) * st : Nat) := by rw [show (t : Int) - 1 - j = ((t - 1 - j : Nat) : Int) by omega]; push_cast; rfl
      have hq2 : ((t : Int) - 1 - j) * ss = ((t - 1 - j : Nat) * ss : Nat) := by rw [show (t : Int) - 1 - j = ((t - 1 - j : Nat) : Int) by omega]; push_cast; rfl
      rw [hq1] at ha
      rw [hq2] at hb
      have hn1 : ((t : Int) - 1 - (j + 1 : Nat)) * st = a - st := by rw [ha, ← hq1]; exact (by rw [show (t : Int) - 1 - (j + 1 : Nat) = ((t : Int) - 1 - j) - 1 by omega, Int.sub_mul]; omega)
      have hn2 : ((t : Int) - 1 - (j + 1 : Nat)) * ss = b - ss := by rw [hb, ← hq2]; exact (by rw [show (t : Int) - 1 - (j + 1 : Nat) = ((t : Int) - 1 - j) - 1 by omega, Int.sub_mul]; omega)
      obtain ⟨p, hp⟩ : ∃ p : Nat, (t - 1 - j) * st = p := ⟨_, rfl⟩
      obtain ⟨q, hq⟩ : ∃ q : Nat, (t - 1 - j) * ss = q := ⟨_, rfl⟩
      have h1 := hd1 (t - 1 - j) (by omega)
      have h2 := hs1 (t - 1 - j) (by omega)
      rw [hp] at ha h1
      rw [hq] at hb h2
      subst ha hb
      have Hn1 := hid hn1
      have Hn2 := hid hn2
      clear hq1 hq2 hn1 hn2
      obtain ⟨hn', ht'⟩ := Hn.out
      obtain ⟨w2, hrun, hgb2, hg2, -⟩ := copy_pix (w := wr.drew) (w0 := w) (R := Tryz.prog) (dn' := bw rx xe ry ye (j + 1) 0) 22 22 3 _ Tryz.underlying22 (by kernel_rfl) (ry + (t - 1 - j)) rx n (d0 + p) (n * 4) (cd - d0 - p) ps
            (s0 + q) (n * 4) (cs - s0 - q) (PixI.drew hg) (by omega) (by omega) (by omega) (by omega) (by have := Hd0.out; rw [Hst.out, Nat.add_mul, hp]; omega) (by omega) (by omega) (by
              intro c ch hc hch
              have := src_cell (r := sy + (t - 1 - j)) (c := sx + c) (ch := ch) (i := s0 + q + (c * 4 + ch)) hal hgb hg (by omega) (by omega) hch (fun e => by have := hdir e; unfold bw; omega) (by have := Hs0.out; rw [Hss.out, Nat.add_mul, hq]; omega)
              rw [World.cell?_drew, this, HF.out]; dsimp only
              rw [show sy + (ry + (t - 1 - j) - ry) = sy + (t - 1 - j) by omega, show sx + (rx + c - rx) = sx + c by omega])
            (fun r' c' => by unfold bw; omega) (gb_drew hgb)
      have Hg := hid hg
      clear hn' ht'
      clear hg hp hq
      go_wp2_with fail
      have p1 : IntKind.i64.wrap ((p : Int) + n * 4) = (p : Int) + n * 4 := IntWalk.i64_in _ (by omega)
      have p2 : 0 ≤ (p : Int) + n * 4 := by omega
      have p3 : (p : Int) + n * 4 ≤ ((cd - d0 : Nat) : Int) := by omega
      have p4 : ((p : Int) + n * 4).toNat = p + n * 4 := by omega
      have p5 : ¬ (cd - d0 = p) := by omega
      have p6 : p ≤ p + n * 4 := by omega
      have r1 : IntKind.i64.wrap ((q : Int) + n * 4) = (q : Int) + n * 4 := IntWalk.i64_in _ (by omega)
      have r2 : 0 ≤ (q : Int) + n * 4 := by omega
      have r3 : (q : Int) + n * 4 ≤ ((cs - s0 : Nat) : Int) := by omega
      have r4 : ((q : Int) + n * 4).toNat = q + n * 4 := by omega
      have r5 : ¬ (cs - s0 = q) := by omega
      have r6 : q ≤ q + n * 4 := by omega
      go_still_tail 12, (by kernel_rfl)
      clear p1 p2 p3 p4 p5 p6 r1 r2 r3 r4 r5 r6
      go_wp2
      exact ⟨⟨j + 1, _, _, by omega, Hn1.out.symm, Hn2.out.symm, by first | rfl | (congr 1; omega), by first | rfl | (congr 1; omega), by congr 1; omega, hgb2, hg2⟩, by simp [intOf]; omega⟩
    · have hjp : t - j = 0 := by omega
      go_wp2
      go_end0
      have hn' := Hn.out
      exact ⟨rfl, hgb, pt_turn hg (fun r c _ _ => by unfold bw inR; omega)⟩
  · have hfwd : y0 ≤ spy := by omega
    go_enter Tryz.func63, Tryz.ntmps63
    go_wp2_with fail
    refine (dy_c x0 y0 x1 y1 _ (by unfold sm; omega) (by unfold sm; omega)).mono ?_
    rintro e w2 ⟨rfl, rfl⟩
    go_wp2_with fail
    go_loopw [14, 15, 18] (fun u v y wr => ∃ (j : Nat) (a b : Int), j ≤ t ∧ a = (j : Int) * st ∧ b = (j : Int) * ss ∧ u = .int .i64 a ∧ v = .int .i64 b ∧ y = .int .i64 ((t - j : Nat) : Int) ∧ w.grownBy wr (some pd) ∧
       PixI wr pd dh dw 4 (pt (fw rx xe ry j 0) F D)) (fun _ _ y _ => (intOf y).toNat)
    case atStart =>
      refine ⟨0, 0, 0, by omega, by simp, by simp, rfl, rfl, by simp, by (repeat (first | exact gb_refl _ _ | refine gb_drewN ?_ _ | refine gb_alloc ?_ _ | refine gb_drew ?_)), ?_⟩
      have hn' := Hn.out
      exact pt_start (by (repeat (first | exact hpd | refine PixI.drewN ?_ _ | refine PixI.alloc ?_ _ | refine PixI.drew ?_))) (fun r c _ _ => by unfold fw; omega)
    case round =>
    obtain ⟨j, a, b, hj, ha, hb, rfl, rfl, rfl, hgb, hg⟩ := hrel
    by_cases hlt : j < t
    · have hjp : 0 < t - j := by omega
      have hq1 : (j : Int) * st = (j * st : Nat) := by push_cast; rfl
      have hq2 : (j : Int) * ss = (j * ss : Nat) := by push_cast; rfl
      rw [hq1] at ha
      rw [hq2] at hb
      have hn1 : ((j + 1 : Nat) : Int) * st = a + st := by rw [ha, ← hq1]; exact (by push_cast; rw [Int.add_mul]; omega)
      have hn2 : ((j + 1 : Nat) : Int) * ss = b + ss := by rw [hb, ← hq2]; exact (by push_cast; rw [Int.add_mul]; omega)
      obtain ⟨p, hp⟩ : ∃ p : Nat, (j) * st = p := ⟨_, rfl⟩
      obtain ⟨q, hq⟩ : ∃ q : Nat, (j) * ss = q := ⟨_, rfl⟩
      have h1 := hd1 (j) (by omega)
      have h2 := hs1 (j) (by omega)
      rw [hp] at ha h1
      rw [hq] at hb h2
      subst ha hb
      have Hn1 := hid hn1
      have Hn2 := hid hn2
      clear hq1 hq2 hn1 hn2
      obtain ⟨hn', ht'⟩ := Hn.out
      obtain ⟨w2, hrun, hgb2, hg2, -⟩ := copy_pix (w := wr.drew) (w0 := w) (R := Tryz.prog) (dn' := fw rx xe ry (j + 1) 0) 22 22 3 _ Tryz.underlying22 (by kernel_rfl) (ry + (j)) rx n (d0 + p) (n * 4) (cd - d0 - p) ps
            (s0 + q) (n * 4) (cs - s0 - q) (PixI.drew hg) (by omega) (by omega) (by omega) (by omega) (by have := Hd0.out; rw [Hst.out, Nat.add_mul, hp]; omega) (by omega) (by omega) (by
              intro c ch hc hch
              have := src_cell (r := sy + (j)) (c := sx + c) (ch := ch) (i := s0 + q + (c * 4 + ch)) hal hgb hg (by omega) (by omega) hch (fun e => by have := hdir e; unfold fw; omega) (by have := Hs0.out; rw [Hss.out, Nat.add_mul, hq]; omega)
              rw [World.cell?_drew, this, HF.out]; dsimp only
              rw [show sy + (ry + (j) - ry) = sy + (j) by omega, show sx + (rx + c - rx) = sx + c by omega])
            (fun r' c' => by unfold fw; omega) (gb_drew hgb)
      have Hg := hid hg
      clear hn' ht'
      clear hg hp hq
      go_wp2_with fail
      have p1 : IntKind.i64.wrap ((p : Int) + n * 4) = (p : Int) + n * 4 := IntWalk.i64_in _ (by omega)
      have p2 : 0 ≤ (p : Int) + n * 4 := by omega
      have p3 : (p : Int) + n * 4 ≤ ((cd - d0 : Nat) : Int) := by omega
      have p4 : ((p : Int) + n * 4).toNat = p + n * 4 := by omega
      have p5 : ¬ (cd - d0 = p) := by omega
      have p6 : p ≤ p + n * 4 := by omega
      have r1 : IntKind.i64.wrap ((q : Int) + n * 4) = (q : Int) + n * 4 := IntWalk.i64_in _ (by omega)
      have r2 : 0 ≤ (q : Int) + n * 4 := by omega
      have r3 : (q : Int) + n * 4 ≤ ((cs - s0 : Nat) : Int) := by omega
      have r4 : ((q : Int) + n * 4).toNat = q + n * 4 := by omega
      have r5 : ¬ (cs - s0 = q) := by omega
      have r6 : q ≤ q + n * 4 := by omega
      go_still_tail 12, (by kernel_rfl)
      clear p1 p2 p3 p4 p5 p6 r1 r2 r3 r4 r5 r6
      go_wp2
      exact ⟨⟨j + 1, _, _, by omega, Hn1.out.symm, Hn2.out.symm, by first | rfl | (congr 1; omega), by first | rfl | (congr 1; omega), by congr 1; omega, hgb2, hg2⟩, by simp [intOf]; omega⟩
    · have hjp : t - j = 0 := by omega
      go_wp2
      go_end0
      have hn' := Hn.out
      exact ⟨rfl, hgb, pt_turn hg (fun r c _ _ => by unfold fw inR; omega)⟩
end Go.Proofs.YtgjpohmjkhgpfaaGreat
