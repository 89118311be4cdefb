/- Parts of the proof: what the functions of the package and of the reference do (X6, Y1). No condition but those that each theorem names. -/
import Derived.Test.YtgjpohmjkhgpfaaGreatD02
import Derived.Test.YtgjpohmjkhgpfaaGreatD03
import Derived.Test.YtgjpohmjkhgpfaaGreatD04
import Derived.Test.YtgjpohmjkhgpfaaGreatD14
import Derived.Deep.RegionHeld3
import Derived.LaidEql
import Derived.Stop.Asserts
set_option linter.unusedSimpArgs false
set_option linter.unusedVariables false
namespace Go.Proofs.YtgjpohmjkhgpfaaGreat
open Go.RowKit

theorem fill_full {d s : Nat → Int} (h : cl 6 s 3 = 65535) : px0 0 6 0 d s = px0 0 6 1 d s := by
  unfold px0
  rw [h]
  congr 1
  funext i
  rw [mix0_full, mix0_full]

set_option maxRecDepth 100000 in
set_option maxHeartbeats 8000000 in
theorem dm_0_6 {bd pd dh dw bs ps sh sw op rx ry xe ye sx sy : Nat} {dx0 dy0 sx0 sy0 x0 y0 x1 y1 px py qx qy b0 b1 b2 b3 p0 p1 q0 q1 : Int} {D S : Nat → Nat → Nat → Int} {ts : TypeId} (w : World)
    (hD : Pic w bd 87 pd 4 dh dw dx0 dy0 D) (hS : Src w bs ps sh sw sx0 sy0 S 6 ts) (hop : op = 0 ∨ op = 1) (hpm : ∀ r c, Pm 6 (S r c))
    (hC : Cl0 x0 y0 x1 y1 px py qx qy dx0 dy0 (dx0 + dw) (dy0 + dh) sx0 sy0 (sx0 + sw) (sy0 + sh) b0 b1 b2 b3 p0 p1 q0 q1)
    (hR : Rct b0 b1 b2 b3 dx0 dy0 rx ry xe ye dh dw) :
    Calls Tryz.prog 42 #[.iface 85 (.pointer (some ⟨bd, 0, none⟩)), vR x0 y0 x1 y1, .iface ts (.pointer (some ⟨bs, 0, none⟩)), vP px py, .nilIface, vP qx qy, .int .i64 op] w
      (Drawn w pd 4 dh dw rx ry xe ye (fun r c => px0 0 6 op (D r c) (S (sy + (r - ry)) (sx + (c - rx)))) D) := by
  have HSs := hid hS
  cases hS
  case k6 s hby hSe hc hl e1 e2 e3 e4 e5 =>
  subst hSe
  obtain ⟨c, hcl⟩ : ∃ c : Nat → Int, cl 6 s = c := ⟨_, rfl⟩
  rw [hcl] at hc
  have hcr : ∀ i, 0 ≤ c i ∧ c i ≤ 65535 := fun i => by rw [← hcl]; exact cl_range hby i
  have HC := hid hC
  have Hem := hid (rct_ne hR)
  have HR := hid hR
  have HD := hid hD
  have Hby := hid hby
  have Hcr := hid hcr
  have Hcl := hid hcl
  have Hpm := hid (hpm 0 0)
  have He := hid (And.intro e1 (And.intro e2 (And.intro e3 (And.intro e4 e5))))
  clear hC hR hD hby hcr hcl hpm e1 e2 e3 e4 e5
  rcases hop with rfl | rfl
  · by_cases hfull : c 3 = 65535
    · have hf : (c 3 == 65535) = true := by rw [hfull]; rfl
      have Hf := hid hfull
      clear hfull
      go_enter Tryz.func42, Tryz.ntmps42
      go_wp2_with fail
      refine (clip0_k HC.out (w0 := w) (gb_alloc (gb_alloc (gb_alloc (gb_refl _ _) _) _) _) (Nat.le_refl _) (by omega) (by omega) (by omega) (by omega) (by omega) (Src.k0 HD.out).bd HSs.out.bd (cp_start _ _ _ _ _ _ _ _ _)).mono ?_
      rintro e w1 ⟨rfl, hg, ⟨c0, c1, c2, c3, k0, k1, l0, l1, fr, fp, fq⟩⟩
      have z1 : w.heap.size < w1.heap.size := World.block_lt_of_cell? w1 _ c0
      clear fr fp fq k0 k1 l0 l1
      have Hg := hid hg
      clear hg
      go_wp2_with fail
      refine (empty_c b0 b1 b2 b3 _).mono ?_
      rintro e w2 ⟨rfl, rfl⟩
      rw [Hem.out]
      have HG := hid (gb_alloc Hg.out (.cells #[.int .i64 b0, .int .i64 b1, .int .i64 b2, .int .i64 b3] 78))
      have hc' := (gb_cell0 HG.out hl).trans hc
      go_wp2_with fail
      refine (uni_RGBA_c c bs _ Hcr.out hc').mono ?_
      rintro e w3 ⟨rfl, hg3⟩
      have HW := hid (gb_trans (gb_alloc (gb_refl w1 none) (.cells #[.int .i64 b0, .int .i64 b1, .int .i64 b2, .int .i64 b3] 78)) hg3)
      have HG3 := hid (gb_trans HG.out hg3)
      clear hg3
      have c0' := (gb_cell0 HW.out z1).trans c0
      have c1' := (gb_cell0 HW.out z1).trans c1
      have c2' := (gb_cell0 HW.out z1).trans c2
      have c3' := (gb_cell0 HW.out z1).trans c3
      go_wp2_with fail
      refine Calls.mono (drawFillSrc_c (c := c) (s := s) _ (HD.out.kept0 HG3.out) HR.out Hby.out (fun i => by rw [Hcl.out])) ?_
      rintro e w4 h3
      have h4 := drawn_of HG3.out h3
      obtain ⟨rfl, h5⟩ := h4
      have H5 := hid h5
      clear h3 h5
      go_wp2
      refine bodyPost_ret (v := .tuple #[]) (by simp [results, Tryz.results42]) rfl ⟨rfl, H5.out.1, ?_⟩
      refine H5.out.2.congr fun r cc ch _ _ _ => ?_
      by_cases hin : inR rx xe ry ye r cc
      · rw [pt_pos hin, pt_pos hin, fill_full (by rw [Hcl.out]; exact Hf.out)]
      · rw [pt_neg hin, pt_neg hin]
    · have hf : (c 3 == 65535) = false := by rw [beq_eq_false_iff_ne]; exact hfull
      clear hfull
      go_enter Tryz.func42, Tryz.ntmps42
      go_wp2_with fail
      refine (clip0_k HC.out (w0 := w) (gb_alloc (gb_alloc (gb_alloc (gb_refl _ _) _) _) _) (Nat.le_refl _) (by omega) (by omega) (by omega) (by omega) (by omega) (Src.k0 HD.out).bd HSs.out.bd (cp_start _ _ _ _ _ _ _ _ _)).mono ?_
      rintro e w1 ⟨rfl, hg, ⟨c0, c1, c2, c3, k0, k1, l0, l1, fr, fp, fq⟩⟩
      have z1 : w.heap.size < w1.heap.size := World.block_lt_of_cell? w1 _ c0
      clear fr fp fq k0 k1 l0 l1
      have Hg := hid hg
      clear hg
      go_wp2_with fail
      refine (empty_c b0 b1 b2 b3 _).mono ?_
      rintro e w2 ⟨rfl, rfl⟩
      rw [Hem.out]
      have HG := hid (gb_alloc Hg.out (.cells #[.int .i64 b0, .int .i64 b1, .int .i64 b2, .int .i64 b3] 78))
      have hc' := (gb_cell0 HG.out hl).trans hc
      go_wp2_with fail
      refine (uni_RGBA_c c bs _ Hcr.out hc').mono ?_
      rintro e w3 ⟨rfl, hg3⟩
      have HW := hid (gb_trans (gb_alloc (gb_refl w1 none) (.cells #[.int .i64 b0, .int .i64 b1, .int .i64 b2, .int .i64 b3] 78)) hg3)
      have HG3 := hid (gb_trans HG.out hg3)
      clear hg3
      have c0' := (gb_cell0 HW.out z1).trans c0
      have c1' := (gb_cell0 HW.out z1).trans c1
      have c2' := (gb_cell0 HW.out z1).trans c2
      have c3' := (gb_cell0 HW.out z1).trans c3
      go_wp2_with fail
      refine Calls.mono (drawFillOver_c (c := c) (s := s) _ (HD.out.kept0 HG3.out) HR.out Hby.out (fun i => by rw [Hcl.out]) Hpm.out) ?_
      rintro e w4 h3
      have h4 := drawn_of HG3.out h3
      obtain ⟨rfl, h5⟩ := h4
      have H5 := hid h5
      clear h3 h5
      go_wp2
      exact bodyPost_ret (v := .tuple #[]) (by simp [results, Tryz.results42]) rfl ⟨rfl, H5.out⟩
  · go_enter Tryz.func42, Tryz.ntmps42
    go_wp2_with fail
    refine (clip0_k HC.out (w0 := w) (gb_alloc (gb_alloc (gb_alloc (gb_refl _ _) _) _) _) (Nat.le_refl _) (by omega) (by omega) (by omega) (by omega) (by omega) (Src.k0 HD.out).bd HSs.out.bd (cp_start _ _ _ _ _ _ _ _ _)).mono ?_
    rintro e w1 ⟨rfl, hg, ⟨c0, c1, c2, c3, k0, k1, l0, l1, fr, fp, fq⟩⟩
    have z1 : w.heap.size < w1.heap.size := World.block_lt_of_cell? w1 _ c0
    clear fr fp fq k0 k1 l0 l1
    have Hg := hid hg
    clear hg
    go_wp2_with fail
    refine (empty_c b0 b1 b2 b3 _).mono ?_
    rintro e w2 ⟨rfl, rfl⟩
    rw [Hem.out]
    have HG := hid (gb_alloc Hg.out (.cells #[.int .i64 b0, .int .i64 b1, .int .i64 b2, .int .i64 b3] 78))
    have hc' := (gb_cell0 HG.out hl).trans hc
    go_wp2_with fail
    refine (uni_RGBA_c c bs _ Hcr.out hc').mono ?_
    rintro e w3 ⟨rfl, hg3⟩
    have HW := hid (gb_trans (gb_alloc (gb_refl w1 none) (.cells #[.int .i64 b0, .int .i64 b1, .int .i64 b2, .int .i64 b3] 78)) hg3)
    have HG3 := hid (gb_trans HG.out hg3)
    clear hg3
    have c0' := (gb_cell0 HW.out z1).trans c0
    have c1' := (gb_cell0 HW.out z1).trans c1
    have c2' := (gb_cell0 HW.out z1).trans c2
    have c3' := (gb_cell0 HW.out z1).trans c3
    go_wp2_with fail
    refine Calls.mono (drawFillSrc_c (c := c) (s := s) _ (HD.out.kept0 HG3.out) HR.out Hby.out (fun i => by rw [Hcl.out])) ?_
    rintro e w4 h3
    have h4 := drawn_of HG3.out h3
    obtain ⟨rfl, h5⟩ := h4
    have H5 := hid h5
    clear h3 h5
    go_wp2
    exact bodyPost_ret (v := .tuple #[]) (by simp [results, Tryz.results42]) rfl ⟨rfl, H5.out⟩
end Go.Proofs.YtgjpohmjkhgpfaaGreat

namespace Go.Proofs.YtgjpohmjkhgpfaaGreat
open Go.RowKit

theorem by_pt {dn dn' : Nat → Nat → Prop} {F D : Nat → Nat → Nat → Int} {r c : Nat} (hd : ∀ r' c', dn' r' c' ↔ (dn r' c' ∨ (r' = r ∧ c' = c))) (hB : ∀ r c, By (pt dn F D r c)) (hF : By (F r c)) : ∀ r c, By (pt dn' F D r c) := by
  intro r' c' i
  by_cases e : r' = r ∧ c' = c
  · obtain ⟨rfl, rfl⟩ := e
    rw [pt_pos ((hd _ _).2 (.inr ⟨rfl, rfl⟩))]
    exact hF i
  · have hd' : dn' r' c' ↔ dn r' c' := by rw [hd]; exact ⟨fun h => h.resolve_right e, .inl⟩
    rw [pt_iff hd']
    exact hB r' c' i
/-- the first n bytes alone -/
def cutN (n : Nat) (p : Nat → Int) : Nat → Int := fun ch => if ch < n then p ch else 0
theorem cutN_lt {n ch : Nat} {p : Nat → Int} (h : ch < n) : cutN n p ch = p ch := if_pos h
theorem by_en {k : Nat} {v : Nat → Int} (hk : k = 0 ∨ k = 2 ∨ k = 4) (hv : ∀ i, i < 4 → 0 ≤ v i ∧ v i ≤ 65535) : By (cutN (sz k) (en k v)) := by
  intro i
  unfold cutN
  split
  · rename_i hi
    rcases hk with rfl | rfl | rfl
    · have hi' : i < 4 := hi
      rw [en0]; have := hv i hi'; omega
    · rw [en2]; have := hv 3 (by omega); omega
    · have hi' : i < 8 := hi
      rw [en4]; have := hv (i / 2) (by omega); split <;> omega
  · omega

set_option maxRecDepth 100000 in
set_option maxHeartbeats 4000000 in
theorem set64_Alpha {b T pb h wd r c : Nat} {x0 y0 x y : Int} {F D : Nat → Nat → Nat → Int} {dn dn' : Nat → Nat → Prop} (v : Nat → Int) (w : World) (H : Pic w b T pb 1 h wd x0 y0 (pt dn F D)) (e1 : x - x0 = c) (e2 : y - y0 = r) (hc : c < wd) (hr : r < h)
    (hv : ∀ i, i < 4 → 0 ≤ v i ∧ v i ≤ 65535) (hF : F r c = cutN (sz 2) (en 2 v)) (hd : ∀ r' c', dn' r' c' ↔ (dn r' c' ∨ (r' = r ∧ c' = c))) :
    Calls Tryz.prog 150 #[.pointer (some ⟨b, 0, none⟩), .int .i64 x, .int .i64 y, c64 v] w fun e w' => e = .returned (.tuple #[]) ∧ w.grownBy w' (some pb) ∧ Pic w' b T pb 1 h wd x0 y0 (pt dn' F D) := by
  obtain ⟨n, cap, st, D0, D1, D2, D3, D4, D5, bl, px, hn, hst, hcap, hcap2, hne, hw, hh, a1, a2, a3, a4, hB⟩ := H.cells
  have g1 : x0 ≤ x := by omega
  have g2 : x < x0 + wd := by omega
  have g3 : y0 ≤ y := by omega
  have g4 : y < y0 + h := by omega
  have g5 : st ≤ 1024 := by omega
  obtain ⟨q, hq⟩ : ∃ q : Nat, q = r * st + c * 1 := ⟨_, rfl⟩
  have hfit := pix_bound hr hc (show 1 - 1 < 1 by omega)
  rw [hst, ← hn] at hfit
  have hqn : q < n := by omega
  have hqn' : (q : Int) < (n : Int) := by omega
  have hq0 : (0 : Int) ≤ (q : Int) := by omega
  have K0 := px.cell (r := r) (c := c) (ch := 0) (i := q) hr hc (by omega) (by rw [hst, hq]; rfl)
  have F0 := fun k => px.free k
  have bl2 := px.lt
  have g6 : c ≤ 128 := by omega
  have g7 : r ≤ 128 := by omega
  have B3 := hv 3 (by omega)
  have Hq := hid hq
  have E1 := hid e1
  have E2 := hid e2
  have Hh := hid (And.intro hn hst)
  have HH := hid H
  have HF := hid hF
  have HV := hid hv
  have HD := hid hd
  have HP := hid px
  have HB := hid hB
  have w8 : IntKind.u8.wrap (v 3 / 256) = v 3 / 256 := by rw [IntKind.wrap_u8]; omega
  clear H hq e1 e2 hn hst px hB hF hv hd
  go_enter Tryz.func150, Tryz.ntmps150
  go_wp2_with fail
  refine (in_c x y x0 y0 (x0 + wd) (y0 + h) _ g1 g2 g3 g4).mono ?_
  rintro e w1 ⟨rfl, hg1⟩
  obtain ⟨c1, f1⟩ := gb_rules hg1
  have z1 : w.heap.size < w1.heap.size := by have := hg1.size; simp at this; omega
  have t1 : b < w1.heap.size := by omega
  have t2 : pb < w1.heap.size := by omega
  go_wp2_with fail
  refine (off_Alpha b st r c q x y x0 y0 _ (by go_simp) (by go_simp) (by go_simp) E1.out E2.out g6 g7 g5 Hq.out).mono ?_
  rintro e w2 ⟨rfl, hg2⟩
  obtain ⟨c2, f2⟩ := gb_rules hg2
  have z2 : w.heap.size < w2.heap.size := by have := hg2.size; omega
  have t3 : b < w2.heap.size := by omega
  have t4 : pb < w2.heap.size := by omega
  have hgw : w.grownBy w2 none := gb_trans (gb_trans (gb_alloc (gb_refl _ _) _) hg1) hg2
  have K := hid (HP.out.kept (gb_block0 hgw bl2))
  have C0 : w2.cell? ⟨b, 0, none⟩ = some (.slice (some ⟨pb, 0, none⟩) n cap) := (gb_cell0 hgw bl).trans D0
  have C1 : w2.cell? ⟨pb, q, none⟩ = some _ := (gb_cell0 hgw bl2).trans K0
  have C2 : w2.frozen? ⟨pb, q, none⟩ = false := K.out.free q
  have C3 : w2.cell? ⟨w.heap.size, 3, none⟩ = some (.int .u16 (v 3)) := by go_simp
  clear c1 f1 c2 f2 K0 F0 D0 D1 D2 D3 D4 D5
  go_wp2_with fail
  go_region_held3 (fun W => W.cell? ⟨b, 0, none⟩ = some (.slice (some ⟨pb, 0, none⟩) n cap) ∧ W.cell? ⟨w.heap.size, 3, none⟩ = some (.int .u16 (v 3)) ) (first | go_simp | assumption) (fail)
  go_wp2_with fail
  have hgx : w.grownBy ((w2.setCell ⟨pb, q, none⟩ (.int .u8 (v 3 / 256))).drew) (some pb) := gb_drew (gb_setCell (gb_weak hgw _) (p := ⟨pb, q, none⟩) (.inl rfl) _)
  refine bodyPost_end (v := .tuple #[]) (by simp [results, Tryz.results150]) rfl ⟨rfl, hgx, ?_⟩
  refine HH.out.drewn hgx (PixI.drew (pix1 K.out (r := r) (c := c) hr hc (by rw [Hh.out.2]; exact Hq.out) HD.out (by rw [HF.out]; rfl))) (by_pt HD.out HB.out (by rw [HF.out]; exact by_en (.inr (.inl rfl)) HV.out))

set_option maxRecDepth 100000 in
set_option maxHeartbeats 8000000 in
theorem set64_RGBA64 {b T pb h wd r c : Nat} {x0 y0 x y : Int} {F D : Nat → Nat → Nat → Int} {dn dn' : Nat → Nat → Prop} (v : Nat → Int) (w : World) (H : Pic w b T pb 8 h wd x0 y0 (pt dn F D)) (e1 : x - x0 = c) (e2 : y - y0 = r) (hc : c < wd) (hr : r < h)
    (hv : ∀ i, i < 4 → 0 ≤ v i ∧ v i ≤ 65535) (hF : F r c = cutN (sz 4) (en 4 v)) (hd : ∀ r' c', dn' r' c' ↔ (dn r' c' ∨ (r' = r ∧ c' = c))) :
    Calls Tryz.prog 170 #[.pointer (some ⟨b, 0, none⟩), .int .i64 x, .int .i64 y, c64 v] w fun e w' => e = .returned (.tuple #[]) ∧ w.grownBy w' (some pb) ∧ Pic w' b T pb 8 h wd x0 y0 (pt dn' F D) := by
  obtain ⟨n, cap, st, D0, D1, D2, D3, D4, D5, bl, px, hn, hst, hcap, hcap2, hne, hw, hh, a1, a2, a3, a4, hB⟩ := H.cells
  have g1 : x0 ≤ x := by omega
  have g2 : x < x0 + wd := by omega
  have g3 : y0 ≤ y := by omega
  have g4 : y < y0 + h := by omega
  have g5 : st ≤ 1024 := by omega
  obtain ⟨q, hq⟩ : ∃ q : Nat, q = r * st + c * 8 := ⟨_, rfl⟩
  have hfit := pix_bound hr hc (show 8 - 1 < 8 by omega)
  rw [hst, ← hn, ← hq] at hfit
  have bl2 := px.lt
  have g6 : c ≤ 128 := by omega
  have g7 : r ≤ 128 := by omega
  have w0 : IntKind.u8.wrap (v 0 / 256) = v 0 / 256 := by have := hv 0 (by omega); rw [IntKind.wrap_u8]; omega
  have w1 : IntKind.u8.wrap (v 1 / 256) = v 1 / 256 := by have := hv 1 (by omega); rw [IntKind.wrap_u8]; omega
  have w2 : IntKind.u8.wrap (v 2 / 256) = v 2 / 256 := by have := hv 2 (by omega); rw [IntKind.wrap_u8]; omega
  have w3 : IntKind.u8.wrap (v 3 / 256) = v 3 / 256 := by have := hv 3 (by omega); rw [IntKind.wrap_u8]; omega
  have u0 : IntKind.u8.wrap (v 0) = v 0 % 256 := by rw [IntKind.wrap_u8]
  have u1 : IntKind.u8.wrap (v 1) = v 1 % 256 := by rw [IntKind.wrap_u8]
  have u2 : IntKind.u8.wrap (v 2) = v 2 % 256 := by rw [IntKind.wrap_u8]
  have u3 : IntKind.u8.wrap (v 3) = v 3 % 256 := by rw [IntKind.wrap_u8]
  have Hq := hid hq
  have E1 := hid e1
  have E2 := hid e2
  have Hh := hid (And.intro hn hst)
  have HH := hid H
  have HF := hid hF
  have HV := hid hv
  have HD := hid hd
  have HP := hid px
  have HB := hid hB
  clear H hq e1 e2 hn hst px hB hF hv hd
  go_enter Tryz.func170, Tryz.ntmps170
  go_wp2_with fail
  refine (in_c x y x0 y0 (x0 + wd) (y0 + h) _ g1 g2 g3 g4).mono ?_
  rintro e v1 ⟨rfl, hg1⟩
  obtain ⟨c1, f1⟩ := gb_rules hg1
  have z1 : w.heap.size < v1.heap.size := by have := hg1.size; simp at this; omega
  have t1 : b < v1.heap.size := by omega
  have t2 : pb < v1.heap.size := by omega
  go_wp2_with fail
  refine (off_RGBA64 b st r c q x y x0 y0 _ (by go_simp) (by go_simp) (by go_simp) E1.out E2.out g6 g7 g5 Hq.out).mono ?_
  rintro e v2 ⟨rfl, hg2⟩
  obtain ⟨c2, f2⟩ := gb_rules hg2
  have z2 : w.heap.size < v2.heap.size := by have := hg2.size; omega
  have t3 : b < v2.heap.size := by omega
  have t4 : pb < v2.heap.size := by omega
  have hgw : w.grownBy v2 none := gb_trans (gb_trans (gb_alloc (gb_refl _ _) _) hg1) hg2
  have K := hid (HP.out.kept (gb_block0 hgw bl2))
  have C0 : v2.cell? ⟨b, 0, none⟩ = some (.slice (some ⟨pb, 0, none⟩) n cap) := (gb_cell0 hgw bl).trans D0
  have i0 : v2.cell? ⟨w.heap.size, 0, none⟩ = some (.int .u16 (v 0)) := by go_simp
  have i1 : v2.cell? ⟨w.heap.size, 1, none⟩ = some (.int .u16 (v 1)) := by go_simp
  have i2 : v2.cell? ⟨w.heap.size, 2, none⟩ = some (.int .u16 (v 2)) := by go_simp
  have i3 : v2.cell? ⟨w.heap.size, 3, none⟩ = some (.int .u16 (v 3)) := by go_simp
  have hk : ∀ ch, ch < 8 → q + ch = r * (wd * 8) + c * 8 + ch := fun ch _ => by rw [Hh.out.2, Hq.out]
  have k0 := K.out.cell (r := r) (c := c) (ch := 0) (i := q) hr hc (by omega) (hk 0 (by omega))
  have k1 := K.out.cell (r := r) (c := c) (ch := 1) (i := q + 1) hr hc (by omega) (hk 1 (by omega))
  have k2 := K.out.cell (r := r) (c := c) (ch := 2) (i := q + 2) hr hc (by omega) (hk 2 (by omega))
  have k3 := K.out.cell (r := r) (c := c) (ch := 3) (i := q + 3) hr hc (by omega) (hk 3 (by omega))
  have k4 := K.out.cell (r := r) (c := c) (ch := 4) (i := q + 4) hr hc (by omega) (hk 4 (by omega))
  have k5 := K.out.cell (r := r) (c := c) (ch := 5) (i := q + 5) hr hc (by omega) (hk 5 (by omega))
  have k6 := K.out.cell (r := r) (c := c) (ch := 6) (i := q + 6) hr hc (by omega) (hk 6 (by omega))
  have k7 := K.out.cell (r := r) (c := c) (ch := 7) (i := q + 7) hr hc (by omega) (hk 7 (by omega))
  have F0 := fun k => K.out.free k
  have hpw : pb ≠ w.heap.size := by omega
  have s1 : IntKind.i64.wrap ((q : Int) + 8) = (q : Int) + 8 := IntWalk.i64_in _ (by omega)
  have s2 : (0 : Int) ≤ (q : Int) + 8 := by omega
  have s3 : (q : Int) + 8 ≤ (cap : Int) := by omega
  have s4 : ((q : Int) + 8).toNat = q + 8 := by omega
  have s5 : (q : Int) ≤ (q : Int) + 8 := by omega
  clear c1 f1 c2 f2 D0 D1 D2 D3 D4 D5 hk
  go_wp2_with fail
  have hgx : w.grownBy ((((((((v2.setCell ⟨pb, q, none⟩ (.int .u8 (v 0 / 256))).setCell ⟨pb, q + 1, none⟩ (.int .u8 (v 0 % 256))).setCell ⟨pb, q + 2, none⟩ (.int .u8 (v 1 / 256))).setCell ⟨pb, q + 3, none⟩ (.int .u8 (v 1 % 256))).setCell ⟨pb, q + 4, none⟩ (.int .u8 (v 2 / 256))).setCell ⟨pb, q + 5, none⟩ (.int .u8 (v 2 % 256))).setCell ⟨pb, q + 6, none⟩ (.int .u8 (v 3 / 256))).setCell ⟨pb, q + 7, none⟩ (.int .u8 (v 3 % 256))) (some pb) := by
    have h0 := gb_setCell (gb_weak hgw (some pb)) (p := ⟨pb, q, none⟩) (.inl rfl) (.int .u8 (v 0 / 256))
    have h1 := gb_setCell h0 (p := ⟨pb, q + 1, none⟩) (.inl rfl) (.int .u8 (v 0 % 256))
    have h2 := gb_setCell h1 (p := ⟨pb, q + 2, none⟩) (.inl rfl) (.int .u8 (v 1 / 256))
    have h3 := gb_setCell h2 (p := ⟨pb, q + 3, none⟩) (.inl rfl) (.int .u8 (v 1 % 256))
    have h4 := gb_setCell h3 (p := ⟨pb, q + 4, none⟩) (.inl rfl) (.int .u8 (v 2 / 256))
    have h5 := gb_setCell h4 (p := ⟨pb, q + 5, none⟩) (.inl rfl) (.int .u8 (v 2 % 256))
    have h6 := gb_setCell h5 (p := ⟨pb, q + 6, none⟩) (.inl rfl) (.int .u8 (v 3 / 256))
    exact gb_setCell h6 (p := ⟨pb, q + 7, none⟩) (.inl rfl) (.int .u8 (v 3 % 256))
  refine bodyPost_end (v := .tuple #[]) (by simp [results, Tryz.results170]) rfl ⟨rfl, hgx, ?_⟩
  refine HH.out.drewn hgx (pix8 K.out (r := r) (c := c) hr hc (by rw [Hh.out.2]; exact Hq.out) HD.out (by rw [HF.out]; rfl) (by rw [HF.out]; rfl) (by rw [HF.out]; rfl) (by rw [HF.out]; rfl) (by rw [HF.out]; rfl) (by rw [HF.out]; rfl) (by rw [HF.out]; rfl) (by rw [HF.out]; rfl)) (by_pt HD.out HB.out (by rw [HF.out]; exact by_en (.inr (.inr rfl)) HV.out))

section
variable {w : World} {b pb h wd k : Nat} {x0 y0 : Int} {S : Nat → Nat → Nat → Int} {t : TypeId}
/-- the method's function that sets a pixel, whatever the world -/
theorem Src.mset (H : Src w b pb h wd x0 y0 S k t) (hk : k = 2 ∨ k = 4) : ∃ f, Fn f ∧ (∀ w', (method 326 t (.pointer (some ⟨b, 0, none⟩)) "SetRGBA64").run Tryz.prog w' = .ok (f, .pointer (some ⟨b, 0, none⟩)) w') ∧
    ∀ (w' : World) (x y : Int) (r c : Nat) (v : Nat → Int) (F D : Nat → Nat → Nat → Int) (dn dn' : Nat → Nat → Prop), Src w' b pb h wd x0 y0 (pt dn F D) k t → x - x0 = c → y - y0 = r → c < wd → r < h →
      (∀ i, i < 4 → 0 ≤ v i ∧ v i ≤ 65535) → F r c = cutN (sz k) (en k v) → (∀ r' c', dn' r' c' ↔ (dn r' c' ∨ (r' = r ∧ c' = c))) →
      Calls Tryz.prog f #[.pointer (some ⟨b, 0, none⟩), .int .i64 x, .int .i64 y, c64 v] w' fun e w'' => e = .returned (.tuple #[]) ∧ w'.grownBy w'' (some pb) ∧ Src w'' b pb h wd x0 y0 (pt dn' F D) k t := by
  cases H <;> (first | omega | skip)
  case k2 H =>
    refine ⟨150, fun _ _ => by kernel_rfl, fun w' => m_Alpha_SetRGBA64 _ w', fun w' x y r c v F D dn dn' H' g1 g2 g3 g4 hv hF hd => ?_⟩
    cases H'
    case k2 H' => exact (set64_Alpha v w' H' g1 g2 g3 g4 hv hF hd).mono (fun e w'' ⟨h1, h2, h3⟩ => ⟨h1, h2, .k2 h3⟩)
  case k4 H =>
    refine ⟨170, fun _ _ => by kernel_rfl, fun w' => m_RGBA64_SetRGBA64 _ w', fun w' x y r c v F D dn dn' H' g1 g2 g3 g4 hv hF hd => ?_⟩
    cases H'
    case k4 H' => exact (set64_RGBA64 v w' H' g1 g2 g3 g4 hv hF hd).mono (fun e w'' ⟨h1, h2, h3⟩ => ⟨h1, h2, .k4 h3⟩)

/-- its colors, whatever its pixels are by then -/
theorem Src.m64u (H : Src w b pb h wd x0 y0 S k t) (hk : k = 2 ∨ k = 4) : ∃ f, Fn f ∧ (∀ w', (method 326 t (.pointer (some ⟨b, 0, none⟩)) "RGBA64At").run Tryz.prog w' = .ok (f, .pointer (some ⟨b, 0, none⟩)) w') ∧
    ∀ (w' : World) (x y : Int) (r c : Nat) (P : Nat → Nat → Nat → Int), Src w' b pb h wd x0 y0 P k t → x - x0 = c → y - y0 = r → c < wd → r < h →
      Calls Tryz.prog f #[.pointer (some ⟨b, 0, none⟩), .int .i64 x, .int .i64 y] w' fun e w'' => e = .returned (c64 (cl k (P r c))) ∧ w'.grownBy w'' none := by
  cases H <;> (first | omega | skip)
  case k2 H =>
    refine ⟨148, fun _ _ => by kernel_rfl, fun w' => m_Alpha_RGBA64At _ w', fun w' x y r c P H' g1 g2 g3 g4 => ?_⟩
    cases H'
    case k2 H' => exact RGBA64At_Alpha w' H' g1 g2 g3 g4
  case k4 H =>
    refine ⟨168, fun _ _ => by kernel_rfl, fun w' => m_RGBA64_RGBA64At _ w', fun w' x y r c P H' g1 g2 g3 g4 => ?_⟩
    cases H'
    case k4 H' => exact RGBA64At_RGBA64 w' H' g1 g2 g3 g4

/-- it answers to the interface that reads colors of 16 bits -/
theorem Src.ta64 (H : Src w b pb h wd x0 y0 S k t) (w' : World) : (Instr.typeAssert (.iface t (.pointer (some ⟨b, 0, none⟩))) 72 122 true).run Tryz.prog w' = .ok (.tuple #[.iface t (.pointer (some ⟨b, 0, none⟩)), .bool true]) w' := by
  cases H <;> go_simp
/-- its struct's block holds whole cells -/
theorem Src.blk (H : Src w b pb h wd x0 y0 S k t) (hk : k < 6) : ∃ C T, w.heap[b]? = some (.cells C T (0, 0)) := by
  cases H <;> (first | omega | skip)
  all_goals (rename_i H; obtain ⟨_, _, _, hb, _⟩ := H; exact ⟨_, _, hb⟩)
end

theorem eq_same {tp te : TypeId} {a b : Addr} {ca cb : Array Value} {ta tb : TypeId} (w : World) (hp : Tryz.prog.underlying tp = some (.pointer te)) (h1 : (Tryz.prog.info? tp).map (·.comparable) = some true) (h2 : (Tryz.prog.info? te).map (fun j => decide (j.size ≠ 0)) = some true)
    (hne : a ≠ b) (ha : w.heap[a.block]? = some (.cells ca ta (0, 0))) (hb : w.heap[b.block]? = some (.cells cb tb (0, 0))) :
    (binOp .eql 72 (.iface tp (.pointer (some a))) (.iface tp (.pointer (some b)))).run Tryz.prog w = .ok (.bool false) w := by
  cases hi : Tryz.prog.info? tp with
  | none => rw [hi] at h1; cases h1
  | some i =>
    cases hj : Tryz.prog.info? te with
    | none => rw [hj] at h2; cases h2
    | some j =>
      rw [hi] at h1
      rw [hj] at h2
      exact run_eql_iface_ptr_other w Tryz.underlying72 hp hi (by simpa using h1) hj (by simpa using h2) hne ha hb

theorem eq_ifc {w : World} {bd pd dh dw kd bs ps sh sw ks : Nat} {dx0 dy0 sx0 sy0 : Int} {D S : Nat → Nat → Nat → Int} {td ts : TypeId} (Hd : Src w bd pd dh dw dx0 dy0 D kd td) (Hs : Src w bs ps sh sw sx0 sy0 S ks ts) (hk : kd < 6) (hne : bd ≠ bs) (w' : World) (hg : w.grownBy w' none) :
    (binOp .eql 72 (.iface td (.pointer (some ⟨bd, 0, none⟩))) (.iface ts (.pointer (some ⟨bs, 0, none⟩)))).run Tryz.prog w' = .ok (.bool false) w' := by
  obtain ⟨C, T, hC⟩ := (Hd.kept0 hg).blk hk
  have hs := fun h => (Hs.kept0 hg).blk h
  have hne' : (⟨bd, 0, none⟩ : Addr) ≠ ⟨bs, 0, none⟩ := fun e => hne (congrArg Addr.block e)
  cases Hd <;> cases Hs <;> (first | omega | exact run_eql_iface_types _ _ _ _ Tryz.underlying72 (by decide) w' | skip)
  all_goals (obtain ⟨C', T', hC'⟩ := hs (by omega))
  · exact eq_same w' Tryz.underlying85 (by kernel_rfl) (by kernel_rfl) hne' hC hC'
  · exact eq_same w' Tryz.underlying88 (by kernel_rfl) (by kernel_rfl) hne' hC hC'
  · exact eq_same w' Tryz.underlying90 (by kernel_rfl) (by kernel_rfl) hne' hC hC'
  · exact eq_same w' Tryz.underlying92 (by kernel_rfl) (by kernel_rfl) hne' hC hC'
  · exact eq_same w' Tryz.underlying94 (by kernel_rfl) (by kernel_rfl) hne' hC hC'
  · exact eq_same w' Tryz.underlying96 (by kernel_rfl) (by kernel_rfl) hne' hC hC'

set_option maxRecDepth 100000 in
set_option maxHeartbeats 4000000 in
theorem pback_c {w0 w : World} {bd pd dh dw kd bs ps sh sw ks : Nat} {dx0 dy0 sx0 sy0 x0 y0 x1 y1 px py : Int} {D S : Nat → Nat → Nat → Int} {td ts : TypeId} (Hd : Src w0 bd pd dh dw dx0 dy0 D kd td) (Hs : Src w0 bs ps sh sw sx0 sy0 S ks ts) (hk : kd < 6) (hne : bd ≠ bs) (hg : w0.grownBy w none) :
    Calls Tryz.prog 69 #[.iface td (.pointer (some ⟨bd, 0, none⟩)), vR x0 y0 x1 y1, .iface ts (.pointer (some ⟨bs, 0, none⟩)), vP px py] w fun e w' => e = .returned (.bool false) ∧ w.grownBy w' none := by
  have E : ∀ k, (binOp .eql 72 (.iface td (.pointer (some ⟨bd, 0, none⟩))) (.iface ts (.pointer (some ⟨bs, 0, none⟩)))).run Tryz.prog (((w.alloc (.cells #[.int .i64 x0, .int .i64 y0, .int .i64 x1, .int .i64 y1] 78)).alloc (.cells #[.int .i64 px, .int .i64 py] 76)).drewN k) = .ok (.bool false) (((w.alloc (.cells #[.int .i64 x0, .int .i64 y0, .int .i64 x1, .int .i64 y1] 78)).alloc (.cells #[.int .i64 px, .int .i64 py] 76)).drewN k) :=
    fun k => eq_ifc Hd Hs hk hne _ (gb_drewN (gb_alloc (gb_alloc hg _) _) k)
  clear Hd Hs hg
  go_enter Tryz.func69, Tryz.ntmps69
  go_wp2
  go_quiet (fail)
  go_wp2
  go_ret
  exact ⟨rfl, gb_drewN (gb_alloc (gb_alloc (gb_refl _ _) _) _) _⟩
end Go.Proofs.YtgjpohmjkhgpfaaGreat
