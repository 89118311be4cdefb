/- Parts of the proof: what the functions of the package and of the reference do (Rn0). No condition but those that each theorem names. -/
import Derived.Test.YtgjpohmjkhgpfaaGreatD06
import Derived.Test.YtgjpohmjkhgpfaaGreatD15
import Derived.Deep.RegionHeld3
import Derived.Deep.DeepCutAuto
set_option linter.unusedSimpArgs false
set_option linter.unusedVariables false
namespace Go.Proofs.YtgjpohmjkhgpfaaGreat
open Go.RowKit

set_option maxRecDepth 100000 in
set_option maxHeartbeats 8000000 in
theorem drgba_n0 {bd pd dh dw bs ps sh sw ks rx ry xe ye sx sy : Nat} {dx0 dy0 sx0 sy0 x0 y0 x1 y1 spx spy mpx mpy : Int} {D S : Nat → Nat → Nat → Int} {T1 ts : TypeId} (w : World)
    (Hd : Pic w bd 87 pd 4 dh dw dx0 dy0 D) (Hs : Src w bs ps sh sw sx0 sy0 S ks ts) (hne1 : bd ≠ bs) (hne2 : bs ≠ pd) (hne3 : ps ≠ pd) (hpmul : ∀ r c, Pm ks (S r c))
    (HR : Rct x0 y0 x1 y1 dx0 dy0 rx ry xe ye dh dw) (HP : Plc spx spy sx0 sy0 sx sy rx ry xe ye sh sw) (hsx : sm sx0 ∧ sm sy0 ∧ sm sw ∧ sm sh) (hq : -9000000000 ≤ mpx ∧ mpx ≤ 9000000000 ∧ -9000000000 ≤ mpy ∧ mpy ≤ 9000000000) :
    Calls Tryz.prog 66 #[.pointer (some ⟨bd, 0, none⟩), vR x0 y0 x1 y1, .iface ts (.pointer (some ⟨bs, 0, none⟩)), vP spx spy, .nilIface, vP mpx mpy, .int .i64 0] w
      (Drawn w pd 4 dh dw rx ry xe ye (fun r c => px0 0 ks 0 (D r c) (S (sy + (r - ry)) (sx + (c - rx)))) D) := by
  obtain ⟨nd, cd, st, d0, d1, d2, d3, -, -, b1, hpd, hnd, hst, hcd, hmx0, hne, l7, l8, v1, v2, v3, v4, hB⟩ := Hd.cells
  obtain ⟨fs, hFs, hMs, hCs⟩ := Hs.m64
  have TA6 := fun w' => Hs.ta64 w'
  have HE : ∀ k, (binOp .eql 72 (.iface 85 (.pointer (some ⟨bd, 0, none⟩))) (.iface ts (.pointer (some ⟨bs, 0, none⟩)))).run Tryz.prog ((((w.alloc (.cells #[.int .i64 x0, .int .i64 y0, .int .i64 x1, .int .i64 y1] 78)).alloc (.cells #[.int .i64 spx, .int .i64 spy] 76)).alloc (.cells #[.int .i64 mpx, .int .i64 mpy] 76)).drewN k) = .ok (.bool false) ((((w.alloc (.cells #[.int .i64 x0, .int .i64 y0, .int .i64 x1, .int .i64 y1] 78)).alloc (.cells #[.int .i64 spx, .int .i64 spy] 76)).alloc (.cells #[.int .i64 mpx, .int .i64 mpy] 76)).drewN k) :=
    fun k => eq_ifc (Src.k0 Hd) Hs (by omega) hne1 _ (gb_drewN (gb_alloc (gb_alloc (gb_alloc (gb_refl w none) _) _) _) k)
  unfold Fn at hFs
  have HCs := hid hCs
  clear hCs
  obtain ⟨e1, e2, e3, e4, l1, l2, l3, l4⟩ := HR
  obtain ⟨e5, e6, l5, l6⟩ := HP
  unfold sm at hsx
  have a1 : -4000 ≤ x0 ∧ x0 ≤ 4000 ∧ -4000 ≤ y0 ∧ y0 ≤ 4000 := by omega
  have a2 : -4000 ≤ x1 ∧ x1 ≤ 4000 ∧ -4000 ≤ y1 ∧ y1 ≤ 4000 := by omega
  have a3 : -9000000000 ≤ spx ∧ spx ≤ 9000000000 ∧ -9000000000 ≤ spy ∧ spy ≤ 9000000000 := by omega
  have a10 : -9000000000 ≤ mpx ∧ mpx ≤ 9000000000 ∧ -9000000000 ≤ mpy ∧ mpy ≤ 9000000000 := by omega
  have q1 : st ≤ 512 := by omega
  obtain ⟨n, hn⟩ : ∃ n : Nat, xe - rx = n := ⟨_, rfl⟩
  obtain ⟨t, ht⟩ : ∃ t : Nat, ye - ry = t := ⟨_, rfl⟩
  have hn' : rx + n = xe := by omega
  have ht' : ry + t = ye := by omega
  have a4 : 0 < n ∧ n ≤ 128 := by omega
  have a5 : 0 < t ∧ t ≤ 128 := by omega
  have a6 : nd ≤ 65536 := by rw [hnd]; exact Nat.le_trans (Nat.mul_le_mul l8 q1) (by omega)
  obtain ⟨d00, hd0⟩ : ∃ d00 : Nat, ry * st + rx * 4 = d00 := ⟨_, rfl⟩
  have hd1 : ∀ j, j < t → d00 + j * st + n * 4 ≤ nd := by
    intro j hj
    have hh := pix_bound (h := dh) (wd := dw) (k := 4) (r := ry + j) (c := xe - 1) (ch := 3) (by omega) (by omega) (by omega)
    rw [hst, Nat.add_mul] at hh; rw [hnd]; omega
  have E3 : x1 - x0 = (n : Int) := by omega
  have E5 : x0 + (n : Int) = x1 := by omega
  have E6 : y0 + (t : Int) = y1 := by omega
  have Hst := hid hst
  have Hd0 := hid hd0
  have HB := hid hB
  have Hn := hid (And.intro hn' ht')
  have Hd1 := hid hd1
  have Hpl := hid hpd.lt
  have HPD := hid hpd
  have HC := hid (And.intro d0 d1)
  have HHd := hid Hd
  have HHs := hid Hs
  have Hpmul := hid hpmul
  have HXX := hid hsx
  obtain ⟨F, hF⟩ : ∃ F : Nat → Nat → Nat → Int, F = fun r c => px0 0 ks 0 (D r c) (S (sy + (r - ry)) (sx + (c - rx))) := ⟨_, rfl⟩
  rw [← hF]
  have HF := hid hF
  have HEE := hid (And.intro e5 (And.intro e6 (And.intro l5 l6)))
  clear hnd hst hd0 hB Hd Hs hn ht hn' ht' hd1 hF hpd hpmul hsx e5 e6 l5 l6 hq hmx0
  go_enter Tryz.func66, Tryz.ntmps66
  go_wp2
  go_quiet (fail)
  go_wp2
  go_quiet (fail)
  go_wp2
  go_quiet (fail)
  go_wp2_with fail
  refine Calls.mono (off_RGBA bd st ry rx d00 _ _ _ _ _ ((gb_cell0 (a := w) (by (repeat (first | exact gb_refl _ _ | refine gb_drewN ?_ _ | refine gb_alloc ?_ _ | refine gb_drew ?_))) b1).trans d1) ((gb_cell0 (a := w) (by (repeat (first | exact gb_refl _ _ | refine gb_drewN ?_ _ | refine gb_alloc ?_ _ | refine gb_drew ?_))) b1).trans d2) ((gb_cell0 (a := w) (by (repeat (first | exact gb_refl _ _ | refine gb_drewN ?_ _ | refine gb_alloc ?_ _ | refine gb_drew ?_))) b1).trans d3) (by omega) (by omega) (by omega) (by omega) (by omega) Hd0.out.symm) ?_
  rintro e w1 ⟨rfl, hg1⟩
  have HGB : Hid (w.grownBy w1 none) := hid (gb_trans (by (repeat (first | exact gb_refl _ _ | refine gb_drewN ?_ _ | refine gb_alloc ?_ _ | refine gb_drew ?_))) hg1)
  clear d0 d1 d2 d3 HE hg1
  go_wp2_with fail
  clear TA6
  go_loopw [29, 20, 21, 25] (fun y u v z wr => ∃ (j : Nat) (b1 b2 b3 b4 : Int), j ≤ t ∧ b1 = y0 + (j : Int) ∧ b2 = spy + (j : Int) ∧ b3 = mpy + (j : Int) ∧ b4 = (d00 : Int) + (j : Int) * st ∧ y = .int .i64 b1 ∧ u = .int .i64 b2 ∧ v = .int .i64 b3 ∧ z = .int .i64 b4 ∧ w.grownBy wr (some pd) ∧
       PixI wr pd dh dw 4 (pt (fw rx xe ry j 0) F D)) (fun y _ _ _ _ => (y1 - intOf y).toNat)
  case atStart =>
    have hnt := Hn.out
    refine ⟨0, y0, spy, mpy, (d00 : Int), by omega, by omega, by omega, by omega, by simp, by first | rfl | (congr 1; omega), by first | rfl | (congr 1; omega), by first | rfl | (congr 1; omega), by first | rfl | (congr 1; omega), gb_weak HGB.out _, ?_⟩
    exact pt_start (PixI.kept HPD.out (gb_block0 HGB.out Hpl.out)) (fun r c _ _ => by unfold fw; omega)
  case round =>
  obtain ⟨j, b1', b2', b3', b4', hj, hb1, hb2, hb3, hb4, rfl, rfl, rfl, rfl, hgb, hg'⟩ := hrel
  by_cases hlt : j < t
  · obtain ⟨rr, hrr⟩ : ∃ rr : Nat, j = rr := ⟨_, rfl⟩
    have hrt : rr < t := by omega
    have hb1' : b1' = y0 + (rr : Int) := by omega
    have hb2' : b2' = spy + (rr : Int) := by omega
    have hb3' : b3' = mpy + (rr : Int) := by omega
    have h1 := Hd1.out rr hrt
    obtain ⟨p, hp⟩ : ∃ p : Nat, d00 + rr * st = p := ⟨_, rfl⟩
    have hb4' : b4' = (p : Int) := by rw [hb4, ← hp, ← hrr]; push_cast; rfl
    have hn4 : (d00 : Int) + ((j + 1 : Nat) : Int) * st = b4' + st := by rw [hb4]; push_cast; rw [Int.add_mul]; omega
    rw [hp] at h1
    have hn4' : (d00 : Int) + ((j + 1 : Nat) : Int) * st = (p : Int) + st := by rw [hn4, hb4']
    subst hb1' hb2' hb3' hb4'
    have hy1 : ¬ (y0 + (rr : Int) = y1) := by omega
    have hy2 : (y0 + (rr : Int) != y1) = true := by rw [bne_iff_ne]; exact hy1
    have Hn4 := hid hn4'
    have Hp := hid hp
    have Hrr := hid (And.intro hrr (And.intro hb1 (And.intro hb2 hb3)))
    clear hb1 hb2 hb3 hb4 hn4 hn4' hp hrr
    have D0 : wr.cell? ⟨bd, 0, none⟩ = some (.slice (some ⟨pd, 0, none⟩) nd cd) := (gb_cell hgb b1 hne).trans HC.out.1
    have D1 : wr.cell? ⟨bd, 1, none⟩ = some (.int .i64 st) := (gb_cell hgb b1 hne).trans HC.out.2
    go_wp2_with fail
    obtain ⟨wo, ho⟩ : ∃ wo : World, wo = wr := ⟨_, rfl⟩
    go_loopw [30, 31, 32] (fun u v z wr => ∃ (k : Nat) (g1 g2 g3 : Int), k ≤ n ∧ g1 = (p : Int) + (k : Int) * 4 ∧ g2 = spx + (k : Int) ∧ g3 = mpx + (k : Int) ∧ u = .int .i64 g1 ∧ v = .int .i64 g2 ∧ z = .int .i64 g3 ∧ w.grownBy wr (some pd) ∧ PixI wr pd dh dw 4 (pt (fw rx xe ry j k) F D)) (fun _ v _ _ => (spx + n - intOf v).toNat)
    case atStart => exact ⟨0, _, _, _, by omega, rfl, rfl, rfl, by first | (congr 1; omega) | (simp; omega) | simp, by first | (congr 1; omega) | (simp; omega) | simp, by first | (congr 1; omega) | (simp; omega) | simp, hgb, hg'⟩
    case round =>
    clear ho wo D0 D1 hg' hgb
    obtain ⟨k, g1', g2', g3', hk, hg1', hg2', hg3', rfl, rfl, rfl, hgb, hg⟩ := hrel
    by_cases hlti : k < n
    · obtain ⟨kk, hkk⟩ : ∃ kk : Nat, k = kk := ⟨_, rfl⟩
      have hkn : kk < n := by omega
      have he1 : g1' = ((p + kk * 4 : Nat) : Int) := by push_cast; omega
      have he2 : g2' = spx + (kk : Int) := by omega
      have he3 : g3' = mpx + (kk : Int) := by omega
      subst he1 he2 he3
      have hk1 : ¬ (spx + (kk : Int) = spx + n) := by omega
      have hk2 : ¬ (kk = n) := by omega
      have Hkk := hid (And.intro hkk (And.intro hg1' (And.intro hg2' hg3')))
      clear hkk hg1' hg2' hg3'
      have D0 : wr.cell? ⟨bd, 0, none⟩ = some (.slice (some ⟨pd, 0, none⟩) nd cd) := (gb_cell hgb b1 hne).trans HC.out.1
      obtain ⟨dp, hdp⟩ : ∃ dp : Nat → Int, D (ry + rr) (rx + kk) = dp := ⟨_, rfl⟩
      obtain ⟨ss, hsp⟩ : ∃ ss : Nat → Int, cl ks (S (sy + rr) (sx + kk)) = ss := ⟨_, rfl⟩
      have hFv : ∀ ch, F (ry + rr) (rx + kk) ch = (dp ch * ((65535 - ss 3) * 257) / 65535 + ss ch) / 256 := fun ch => by
        rw [HF.out]; dsimp only
        rw [hdp, show sy + (ry + rr - ry) = sy + rr by omega, show sx + (rx + kk - rx) = sx + kk by omega]
        unfold px0 mix0
        rw [en0, if_pos rfl, hsp, cl0, rest8_eq]
      have bdp : By dp := by rw [← hdp]; exact HB.out _ _
      have rs : ∀ i, 0 ≤ ss i ∧ ss i ≤ 65535 := fun i => by rw [← hsp]; exact cl_range (HHs.out.by _ _) i
      have ps3 : ∀ i, i < 3 → ss i ≤ ss 3 := fun i hi => by rw [← hsp]; exact Hpmul.out _ _ i hi
      have hnt := Hn.out
      have hrr := Hrr.out.1
      have hkk := Hkk.out.1
      have hp1 : p = (ry + rr) * st + rx * 4 := by have := Hd0.out; rw [← Hp.out, Nat.add_mul]; omega
      have k0 := hg.cell (r := ry + rr) (c := rx + kk) (ch := 0) (i := p + kk * 4) (by omega) (by omega) (by omega) (by rw [Hst.out, hp1]; omega)
      have k1 := hg.cell (r := ry + rr) (c := rx + kk) (ch := 1) (i := p + kk * 4 + 1) (by omega) (by omega) (by omega) (by rw [Hst.out, hp1]; omega)
      have k2 := hg.cell (r := ry + rr) (c := rx + kk) (ch := 2) (i := p + kk * 4 + 2) (by omega) (by omega) (by omega) (by rw [Hst.out, hp1]; omega)
      have k3 := hg.cell (r := ry + rr) (c := rx + kk) (ch := 3) (i := p + kk * 4 + 3) (by omega) (by omega) (by omega) (by rw [Hst.out, hp1]; omega)
      rw [pt_neg (by unfold fw; omega), hdp] at k0 k1 k2 k3
      have F0 := fun k => hg.free k
      have B0 := bdp 0; have B1 := bdp 1; have B2 := bdp 2; have B3 := bdp 3
      have S0 := rs 0; have S1 := rs 1; have S2 := rs 2; have S3 := rs 3
      have hpd2 := hg.lt
      have hbd2 : bd < wr.heap.size := by have := hgb.size; omega
      obtain ⟨Q0, hQ0⟩ : ∃ Q, dp 0 * ((65535 - ss 3) * 257) = Q := ⟨_, rfl⟩
      have bQ0 := rest8_le B0.1 B0.2 (show 0 ≤ 65535 - ss 3 by omega)
      rw [hQ0] at bQ0
      obtain ⟨Q1, hQ1⟩ : ∃ Q, dp 1 * ((65535 - ss 3) * 257) = Q := ⟨_, rfl⟩
      have bQ1 := rest8_le B1.1 B1.2 (show 0 ≤ 65535 - ss 3 by omega)
      rw [hQ1] at bQ1
      obtain ⟨Q2, hQ2⟩ : ∃ Q, dp 2 * ((65535 - ss 3) * 257) = Q := ⟨_, rfl⟩
      have bQ2 := rest8_le B2.1 B2.2 (show 0 ≤ 65535 - ss 3 by omega)
      rw [hQ2] at bQ2
      obtain ⟨Q3, hQ3⟩ : ∃ Q, dp 3 * ((65535 - ss 3) * 257) = Q := ⟨_, rfl⟩
      have bQ3 := rest8_le B3.1 B3.2 (show 0 ≤ 65535 - ss 3 by omega)
      rw [hQ3] at bQ3
      have c0 := ps3 0 (by omega)
      have c1 := ps3 1 (by omega)
      have c2 := ps3 2 (by omega)
      have y0 : Q0 / 65535 + ss 0 ≤ 65535 := by omega
      have y1 : Q1 / 65535 + ss 1 ≤ 65535 := by omega
      have y2 : Q2 / 65535 + ss 2 ≤ 65535 := by omega
      have y3 : Q3 / 65535 + ss 3 ≤ 65535 := by omega
      have V0 := hid ((hFv 0).trans (by rw [hQ0] : _ = (Q0 / 65535 + ss 0) / 256))
      have V1 := hid ((hFv 1).trans (by rw [hQ1] : _ = (Q1 / 65535 + ss 1) / 256))
      have V2 := hid ((hFv 2).trans (by rw [hQ2] : _ = (Q2 / 65535 + ss 2) / 256))
      have V3 := hid ((hFv 3).trans (by rw [hQ3] : _ = (Q3 / 65535 + ss 3) / 256))
      have Hg := hid hg
      have Hp1 := hid hp1
      have Hsp := hid hsp
      have HSr := hid (HHs.out.kept hgb hne2 hne3)
      have Hgb := hid hgb
      have u1 : spx + (kk : Int) - sx0 = ((sx + kk : Nat) : Int) := by have := HEE.out; omega
      have u2 : spy + (rr : Int) - sy0 = ((sy + rr : Nat) : Int) := by have := HEE.out; omega
      have u3 : sx + kk < sw ∧ sy + rr < sh := by have := HEE.out; omega
      have HU := hid (And.intro u1 (And.intro u2 u3))
      have HL := hid (And.intro (And.intro l1 (And.intro l2 (And.intro l3 l4))) (And.intro hkn (And.intro hrt hkk)))
      have HK := hid (And.intro a1 (And.intro a2 (And.intro e1 (And.intro e2 (And.intro e3 (And.intro e4 (And.intro hnt hrr)))))))
      clear hg hdp hsp bdp rs ps3 hFv hp1 hnt hrr hkk u1 u2 u3 hgb l1 l2 l3 l4 e1 e2 e3 e4 a1 a2 E3 E5 E6 q1 hlt hlti hy1 hy2 hrt v1 v2 v3 v4 l7 l8 hne2 hne3
      have HALL := hid (And.intro Hn (And.intro Hrr (And.intro Hkk (And.intro Hst (And.intro Hd0 (And.intro HB (And.intro Hd1 (And.intro Hpl (And.intro HPD (And.intro HC (And.intro HHd (And.intro HHs (And.intro Hpmul (And.intro HXX (And.intro HF (And.intro HEE (And.intro HGB (And.intro Hn4 (And.intro Hp (And.intro Hg (And.intro Hp1 (And.intro HL (And.intro HK (And.intro V0 (And.intro V1 (And.intro V2 (And.intro V3 (Hgb))))))))))))))))))))))))))))
      clear Hn Hrr Hkk Hst Hd0 HB Hd1 Hpl HPD HC HHd HHs Hpmul HXX HF HEE HGB Hn4 Hp Hg Hp1 HL HK V0 V1 V2 V3 Hgb
      go_wp2_with fail
      refine (HCs.out _ _ _ (sy + rr) (sx + kk) (HSr.out.kept0 ((by (repeat (first | exact gb_refl _ _ | refine gb_drewN ?_ _ | refine gb_alloc ?_ _ | refine gb_drew ?_))))) HU.out.1 HU.out.2.1 HU.out.2.2.1 HU.out.2.2.2).mono ?_
      rintro e w5 ⟨rfl, hg5⟩
      rw [Hsp.out]
      have HG5 := hid (gb_trans (a := wr) ((by (repeat (first | exact gb_refl _ _ | refine gb_drewN ?_ _ | refine gb_alloc ?_ _ | refine gb_drew ?_)))) hg5)
      clear hg5
      have D0' := (gb_cell0 HG5.out (p := ⟨bd, 0, none⟩) hbd2).trans D0
      have k0' := (gb_cell0 HG5.out (p := ⟨pd, p + kk * 4, none⟩) hpd2).trans k0
      have k1' := (gb_cell0 HG5.out (p := ⟨pd, p + kk * 4 + 1, none⟩) hpd2).trans k1
      have k2' := (gb_cell0 HG5.out (p := ⟨pd, p + kk * 4 + 2, none⟩) hpd2).trans k2
      have k3' := (gb_cell0 HG5.out (p := ⟨pd, p + kk * 4 + 3, none⟩) hpd2).trans k3
      have F0' : ∀ k, w5.frozen? ⟨pd, k, none⟩ = false := fun k => (gb_free0 HG5.out (p := ⟨pd, k, none⟩) hpd2).trans (F0 k)
      have hpd3 : pd < w5.heap.size := by have := HG5.out.size; omega
      have hbd3 : bd < w5.heap.size := by have := HG5.out.size; omega
      clear D0 k0 k1 k2 k3 F0 hpd2 hbd2
      go_wp2_with fail
      obtain ⟨Hn, Hrr, Hkk, Hst, Hd0, HB, Hd1, Hpl, HPD, HC, HHd, HHs, Hpmul, HXX, HF, HEE, HGB, Hn4, Hp, Hg, Hp1, HL, HK, V0, V1, V2, V3, Hgb⟩ := HALL.out
      obtain ⟨⟨l1, l2, l3, l4⟩, hkn, hrt, hkk⟩ := HL.out
      obtain ⟨a1, a2, e1, e2, e3, e4, hnt, hrr⟩ := HK.out
      refine ⟨⟨k + 1, _, _, _, by omega, rfl, rfl, rfl, by first | rfl | (congr 1; push_cast; omega), by first | rfl | (congr 1; push_cast; omega), by first | rfl | (congr 1; push_cast; omega), ?_, ?_⟩, by simp [intOf]; omega⟩
      · exact gb_alloc (gb_setCell (gb_setCell (gb_setCell (gb_setCell (gb_trans' Hgb.out HG5.out) (.inl rfl) _) (.inl rfl) _) (.inl rfl) _) (.inl rfl) _) _
      · exact PixI.alloc (pix4 (dn := fw rx xe ry j k) (Hg.out.kept (gb_block0 HG5.out Hg.out.lt)) (r := ry + rr) (c := rx + kk) (by omega) (by omega) (by rw [Hst.out, Hp1.out]; omega) (fun r' c' => by unfold fw; omega) V0.out.symm V1.out.symm V2.out.symm V3.out.symm) _
    · have he1 : g1' = (p : Int) + n * 4 := by omega
      have he2 : g2' = spx + (n : Int) := by omega
      have hkn : k = n := by omega
      subst he2
      clear hg1' hg2' hg3'
      have D1 : wr.cell? ⟨bd, 1, none⟩ = some (.int .i64 st) := (gb_cell hgb b1 hne).trans HC.out.2
      go_wp2_with fail
      have hnt := Hn.out
      have hrr := Hrr.out
      exact ⟨⟨j + 1, _, _, _, _, by omega, rfl, rfl, rfl, Hn4.out.symm, by first | rfl | (congr 1; push_cast; omega), by first | rfl | (congr 1; push_cast; omega), by first | rfl | (congr 1; push_cast; omega), by first | rfl | (congr 1; push_cast; omega), hgb, pt_turn hg (fun r c _ _ => by unfold fw; omega)⟩, by simp [intOf]; omega⟩
  · have he : b1' = y1 := by omega
    subst he
    clear hb1 hb2 hb3 hb4
    go_wp2_with fail
    have hnt := Hn.out
    refine bodyPost_ret (v := .tuple #[]) (by simp [results, Tryz.results66]) rfl ⟨rfl, hgb, pt_turn hg' (fun r c _ _ => by unfold fw inR; omega)⟩
end Go.Proofs.YtgjpohmjkhgpfaaGreat
