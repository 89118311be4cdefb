/- image/draw: DrawMask, one color onto RGBA: each pixel of the rectangle is composed, all others stay. -/
import Derived.Test.YtgjpohmjkhgpfaaGreatX0
import Derived.Test.YtgjpohmjkhgpfaaGreatTA
import Derived.Test.YtgjpohmjkhgpfaaGreatW8a
import Derived.Test.YtgjpohmjkhgpfaaGreatW8b
set_option linter.unusedSimpArgs false
set_option linter.unusedVariables false
namespace Go.Proofs.YtgjpohmjkhgpfaaGreat
open Go.RowKit

theorem fill_full {d s : Nat → Int} (h : cl 6 s 3 = 65535) : px0 0 6 0 d s = px0 0 6 1 d s := by
  unfold px0
  rw [h]
  congr 1
  funext i
  rw [mix0_full, mix0_full]

set_option maxRecDepth 100000 in
set_option maxHeartbeats 8000000 in
theorem dm_0_6 {bd pd dh dw bs ps sh sw op rx ry xe ye sx sy : Nat} {dx0 dy0 sx0 sy0 x0 y0 x1 y1 px py qx qy b0 b1 b2 b3 p0 p1 q0 q1 : Int} {D S : Nat → Nat → Nat → Int} {ts : TypeId} (w : World)
    (hD : Pic w bd 87 pd 4 dh dw dx0 dy0 D) (hS : Src w bs ps sh sw sx0 sy0 S 6 ts) (hop : op = 0 ∨ op = 1) (hpm : ∀ r c, Pm 6 (S r c))
    (hC : Cl0 x0 y0 x1 y1 px py qx qy dx0 dy0 (dx0 + dw) (dy0 + dh) sx0 sy0 (sx0 + sw) (sy0 + sh) b0 b1 b2 b3 p0 p1 q0 q1)
    (hR : Rct b0 b1 b2 b3 dx0 dy0 rx ry xe ye dh dw) :
    Calls Tryz.prog 42 #[.iface 85 (.pointer (some ⟨bd, 0, none⟩)), vR x0 y0 x1 y1, .iface ts (.pointer (some ⟨bs, 0, none⟩)), vP px py, .nilIface, vP qx qy, .int .i64 op] w
      (Drawn w pd 4 dh dw rx ry xe ye (fun r c => px0 0 6 op (D r c) (S (sy + (r - ry)) (sx + (c - rx)))) D) := by
  have HSs := hid hS
  cases hS
  case k6 s hby hSe hc hl e1 e2 e3 e4 e5 =>
  subst hSe
  obtain ⟨c, hcl⟩ : ∃ c : Nat → Int, cl 6 s = c := ⟨_, rfl⟩
  rw [hcl] at hc
  have hcr : ∀ i, 0 ≤ c i ∧ c i ≤ 65535 := fun i => by rw [← hcl]; exact cl_range hby i
  have HC := hid hC
  have Hem := hid (rct_ne hR)
  have HR := hid hR
  have HD := hid hD
  have Hby := hid hby
  have Hcr := hid hcr
  have Hcl := hid hcl
  have Hpm := hid (hpm 0 0)
  have He := hid (And.intro e1 (And.intro e2 (And.intro e3 (And.intro e4 e5))))
  clear hC hR hD hby hcr hcl hpm e1 e2 e3 e4 e5
  rcases hop with rfl | rfl
  · by_cases hfull : c 3 = 65535
    · have hf : (c 3 == 65535) = true := by rw [hfull]; rfl
      have Hf := hid hfull
      clear hfull
      go_enter Tryz.func42, Tryz.ntmps42
      go_wp2_with fail
      refine (clip0_k HC.out (w0 := w) (gb_alloc (gb_alloc (gb_alloc (gb_refl _ _) _) _) _) (Nat.le_refl _) (by omega) (by omega) (by omega) (by omega) (by omega) (Src.k0 HD.out).bd HSs.out.bd (cp_start _ _ _ _ _ _ _ _ _)).mono ?_
      rintro e w1 ⟨rfl, hg, ⟨c0, c1, c2, c3, k0, k1, l0, l1, fr, fp, fq⟩⟩
      have z1 : w.heap.size < w1.heap.size := World.block_lt_of_cell? w1 _ c0
      clear fr fp fq k0 k1 l0 l1
      have Hg := hid hg
      clear hg
      go_wp2_with fail
      refine (empty_c b0 b1 b2 b3 _).mono ?_
      rintro e w2 ⟨rfl, rfl⟩
      rw [Hem.out]
      have HG := hid (gb_alloc Hg.out (.cells #[.int .i64 b0, .int .i64 b1, .int .i64 b2, .int .i64 b3] 78))
      have hc' := (gb_cell0 HG.out hl).trans hc
      go_wp2_with fail
      refine (uni_RGBA_c c bs _ Hcr.out hc').mono ?_
      rintro e w3 ⟨rfl, hg3⟩
      have HW := hid (gb_trans (gb_alloc (gb_refl w1 none) (.cells #[.int .i64 b0, .int .i64 b1, .int .i64 b2, .int .i64 b3] 78)) hg3)
      have HG3 := hid (gb_trans HG.out hg3)
      clear hg3
      have c0' := (gb_cell0 HW.out z1).trans c0
      have c1' := (gb_cell0 HW.out z1).trans c1
      have c2' := (gb_cell0 HW.out z1).trans c2
      have c3' := (gb_cell0 HW.out z1).trans c3
      go_wp2_with fail
      refine Calls.mono (drawFillSrc_c (c := c) (s := s) _ (HD.out.kept0 HG3.out) HR.out Hby.out (fun i => by rw [Hcl.out])) ?_
      rintro e w4 h3
      have h4 := drawn_of HG3.out h3
      obtain ⟨rfl, h5⟩ := h4
      have H5 := hid h5
      clear h3 h5
      go_wp2
      refine bodyPost_ret (v := .tuple #[]) (by simp [results, Tryz.results42]) rfl ⟨rfl, H5.out.1, ?_⟩
      refine H5.out.2.congr fun r cc ch _ _ _ => ?_
      by_cases hin : inR rx xe ry ye r cc
      · rw [pt_pos hin, pt_pos hin, fill_full (by rw [Hcl.out]; exact Hf.out)]
      · rw [pt_neg hin, pt_neg hin]
    · have hf : (c 3 == 65535) = false := by rw [beq_eq_false_iff_ne]; exact hfull
      clear hfull
      go_enter Tryz.func42, Tryz.ntmps42
      go_wp2_with fail
      refine (clip0_k HC.out (w0 := w) (gb_alloc (gb_alloc (gb_alloc (gb_refl _ _) _) _) _) (Nat.le_refl _) (by omega) (by omega) (by omega) (by omega) (by omega) (Src.k0 HD.out).bd HSs.out.bd (cp_start _ _ _ _ _ _ _ _ _)).mono ?_
      rintro e w1 ⟨rfl, hg, ⟨c0, c1, c2, c3, k0, k1, l0, l1, fr, fp, fq⟩⟩
      have z1 : w.heap.size < w1.heap.size := World.block_lt_of_cell? w1 _ c0
      clear fr fp fq k0 k1 l0 l1
      have Hg := hid hg
      clear hg
      go_wp2_with fail
      refine (empty_c b0 b1 b2 b3 _).mono ?_
      rintro e w2 ⟨rfl, rfl⟩
      rw [Hem.out]
      have HG := hid (gb_alloc Hg.out (.cells #[.int .i64 b0, .int .i64 b1, .int .i64 b2, .int .i64 b3] 78))
      have hc' := (gb_cell0 HG.out hl).trans hc
      go_wp2_with fail
      refine (uni_RGBA_c c bs _ Hcr.out hc').mono ?_
      rintro e w3 ⟨rfl, hg3⟩
      have HW := hid (gb_trans (gb_alloc (gb_refl w1 none) (.cells #[.int .i64 b0, .int .i64 b1, .int .i64 b2, .int .i64 b3] 78)) hg3)
      have HG3 := hid (gb_trans HG.out hg3)
      clear hg3
      have c0' := (gb_cell0 HW.out z1).trans c0
      have c1' := (gb_cell0 HW.out z1).trans c1
      have c2' := (gb_cell0 HW.out z1).trans c2
      have c3' := (gb_cell0 HW.out z1).trans c3
      go_wp2_with fail
      refine Calls.mono (drawFillOver_c (c := c) (s := s) _ (HD.out.kept0 HG3.out) HR.out Hby.out (fun i => by rw [Hcl.out]) Hpm.out) ?_
      rintro e w4 h3
      have h4 := drawn_of HG3.out h3
      obtain ⟨rfl, h5⟩ := h4
      have H5 := hid h5
      clear h3 h5
      go_wp2
      exact bodyPost_ret (v := .tuple #[]) (by simp [results, Tryz.results42]) rfl ⟨rfl, H5.out⟩
  · go_enter Tryz.func42, Tryz.ntmps42
    go_wp2_with fail
    refine (clip0_k HC.out (w0 := w) (gb_alloc (gb_alloc (gb_alloc (gb_refl _ _) _) _) _) (Nat.le_refl _) (by omega) (by omega) (by omega) (by omega) (by omega) (Src.k0 HD.out).bd HSs.out.bd (cp_start _ _ _ _ _ _ _ _ _)).mono ?_
    rintro e w1 ⟨rfl, hg, ⟨c0, c1, c2, c3, k0, k1, l0, l1, fr, fp, fq⟩⟩
    have z1 : w.heap.size < w1.heap.size := World.block_lt_of_cell? w1 _ c0
    clear fr fp fq k0 k1 l0 l1
    have Hg := hid hg
    clear hg
    go_wp2_with fail
    refine (empty_c b0 b1 b2 b3 _).mono ?_
    rintro e w2 ⟨rfl, rfl⟩
    rw [Hem.out]
    have HG := hid (gb_alloc Hg.out (.cells #[.int .i64 b0, .int .i64 b1, .int .i64 b2, .int .i64 b3] 78))
    have hc' := (gb_cell0 HG.out hl).trans hc
    go_wp2_with fail
    refine (uni_RGBA_c c bs _ Hcr.out hc').mono ?_
    rintro e w3 ⟨rfl, hg3⟩
    have HW := hid (gb_trans (gb_alloc (gb_refl w1 none) (.cells #[.int .i64 b0, .int .i64 b1, .int .i64 b2, .int .i64 b3] 78)) hg3)
    have HG3 := hid (gb_trans HG.out hg3)
    clear hg3
    have c0' := (gb_cell0 HW.out z1).trans c0
    have c1' := (gb_cell0 HW.out z1).trans c1
    have c2' := (gb_cell0 HW.out z1).trans c2
    have c3' := (gb_cell0 HW.out z1).trans c3
    go_wp2_with fail
    refine Calls.mono (drawFillSrc_c (c := c) (s := s) _ (HD.out.kept0 HG3.out) HR.out Hby.out (fun i => by rw [Hcl.out])) ?_
    rintro e w4 h3
    have h4 := drawn_of HG3.out h3
    obtain ⟨rfl, h5⟩ := h4
    have H5 := hid h5
    clear h3 h5
    go_wp2
    exact bodyPost_ret (v := .tuple #[]) (by simp [results, Tryz.results42]) rfl ⟨rfl, H5.out⟩
end Go.Proofs.YtgjpohmjkhgpfaaGreat
