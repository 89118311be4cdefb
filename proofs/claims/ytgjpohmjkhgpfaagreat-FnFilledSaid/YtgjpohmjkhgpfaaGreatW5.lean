/- Images: the color of a pixel, as its own kind and as 16 bits a color. The pixel lies in the image. -/
import Derived.Test.YtgjpohmjkhgpfaaGreatW4
import Derived.StillTailTactics
set_option linter.unusedSimpArgs false
set_option linter.unusedVariables false
namespace Go.Proofs.YtgjpohmjkhgpfaaGreat
open Go.RowKit

set_option maxRecDepth 100000 in
set_option maxHeartbeats 4000000 in
theorem RGBA64At_RGBA {b T pb h wd r c : Nat} {x0 y0 x y : Int} {P : Nat → Nat → Nat → Int} (w : World) (H : Pic w b T pb 4 h wd x0 y0 P) (e1 : x - x0 = c) (e2 : y - y0 = r) (hc : c < wd) (hr : r < h) :
    Calls Tryz.prog 129 #[.pointer (some ⟨b, 0, none⟩), .int .i64 x, .int .i64 y] w fun e w' => e = .returned (c64 (cl 0 (P r c))) ∧ w.grownBy w' none := by
  obtain ⟨n, cap, st, D0, D1, D2, D3, D4, D5, bl, px, hn, hst, hcap, hcap2, hne, hw, hh, a1, a2, a3, a4, hB⟩ := H.cells
  have g1 : x0 ≤ x := by omega
  have g2 : x < x0 + wd := by omega
  have g3 : y0 ≤ y := by omega
  have g4 : y < y0 + h := by omega
  have g5 : st ≤ 1024 := by omega
  obtain ⟨q, hq⟩ : ∃ q : Nat, q = r * st + c * 4 := ⟨_, rfl⟩
  have hfit := pix_bound hr hc (show 4 - 1 < 4 by omega)
  rw [hst, ← hn, ← hq] at hfit
  have K0 := px.cell (r := r) (c := c) (ch := 0) (i := q) hr hc (by omega) (by rw [hst, hq]; rfl)
  have K1 := px.cell (r := r) (c := c) (ch := 1) (i := q + 1) hr hc (by omega) (by rw [hst, hq])
  have K2 := px.cell (r := r) (c := c) (ch := 2) (i := q + 2) hr hc (by omega) (by rw [hst, hq])
  have K3 := px.cell (r := r) (c := c) (ch := 3) (i := q + 3) hr hc (by omega) (by rw [hst, hq])
  have bl2 := px.lt
  have g6 : c ≤ 128 := by omega
  have g7 : r ≤ 128 := by omega
  have B0 := hB r c 0
  have B1 := hB r c 1
  have B2 := hB r c 2
  have B3 := hB r c 3
  have o0 := or257' B0; have o1 := or257' B1; have o2 := or257' B2; have o3 := or257' B3
  have Hq := hid hq
  have E1 := hid e1
  have E2 := hid e2
  have Hh := hid (And.intro hn hst)
  have HH := hid H
  clear H hq e1 e2 hn hst px hB
  go_enter Tryz.func129, Tryz.ntmps129
  go_wp2_with fail
  refine (in_c x y x0 y0 (x0 + wd) (y0 + h) _ g1 g2 g3 g4).mono ?_
  rintro e w1 ⟨rfl, hg1⟩
  obtain ⟨c1, f1⟩ := gb_rules hg1
  have z1 : w.heap.size < w1.heap.size := by have := hg1.size; simp at this; omega
  have t1 : b < w1.heap.size := by omega
  have t2 : pb < w1.heap.size := by omega
  go_wp2_with fail
  refine (off_RGBA b st r c q x y x0 y0 _ (by go_simp) (by go_simp) (by go_simp) E1.out E2.out g6 g7 g5 Hq.out).mono ?_
  rintro e w2 ⟨rfl, hg2⟩
  obtain ⟨c2, f2⟩ := gb_rules hg2
  have z2 : w.heap.size < w2.heap.size := by have := hg2.size; omega
  have t3 : b < w2.heap.size := by omega
  have t4 : pb < w2.heap.size := by omega
  have hgw : w.grownBy w2 none := gb_trans (gb_trans (gb_alloc (gb_refl _ _) _) hg1) hg2
  go_wp2_with fail
  exact bodyPost_ret (v := c64 (cl 0 (P r c))) (by simp [results, Tryz.results129, go_sem, c2, c1, z1, cl0]) rfl ⟨rfl, gb_setCell (gb_setCell (gb_setCell (gb_setCell (hgw) (.inr (Nat.le_refl _)) _) (.inr (Nat.le_refl _)) _) (.inr (Nat.le_refl _)) _) (.inr (Nat.le_refl _)) _⟩

set_option maxRecDepth 100000 in
set_option maxHeartbeats 4000000 in
theorem RGBA64At_RGBA64 {b T pb h wd r c : Nat} {x0 y0 x y : Int} {P : Nat → Nat → Nat → Int} (w : World) (H : Pic w b T pb 8 h wd x0 y0 P) (e1 : x - x0 = c) (e2 : y - y0 = r) (hc : c < wd) (hr : r < h) :
    Calls Tryz.prog 168 #[.pointer (some ⟨b, 0, none⟩), .int .i64 x, .int .i64 y] w fun e w' => e = .returned (c64 (cl 4 (P r c))) ∧ w.grownBy w' none := by
  obtain ⟨n, cap, st, D0, D1, D2, D3, D4, D5, bl, px, hn, hst, hcap, hcap2, hne, hw, hh, a1, a2, a3, a4, hB⟩ := H.cells
  have g1 : x0 ≤ x := by omega
  have g2 : x < x0 + wd := by omega
  have g3 : y0 ≤ y := by omega
  have g4 : y < y0 + h := by omega
  have g5 : st ≤ 1024 := by omega
  obtain ⟨q, hq⟩ : ∃ q : Nat, q = r * st + c * 8 := ⟨_, rfl⟩
  have hfit := pix_bound hr hc (show 8 - 1 < 8 by omega)
  rw [hst, ← hn, ← hq] at hfit
  have K0 := px.cell (r := r) (c := c) (ch := 0) (i := q) hr hc (by omega) (by rw [hst, hq]; rfl)
  have K1 := px.cell (r := r) (c := c) (ch := 1) (i := q + 1) hr hc (by omega) (by rw [hst, hq])
  have K2 := px.cell (r := r) (c := c) (ch := 2) (i := q + 2) hr hc (by omega) (by rw [hst, hq])
  have K3 := px.cell (r := r) (c := c) (ch := 3) (i := q + 3) hr hc (by omega) (by rw [hst, hq])
  have K4 := px.cell (r := r) (c := c) (ch := 4) (i := q + 4) hr hc (by omega) (by rw [hst, hq])
  have K5 := px.cell (r := r) (c := c) (ch := 5) (i := q + 5) hr hc (by omega) (by rw [hst, hq])
  have K6 := px.cell (r := r) (c := c) (ch := 6) (i := q + 6) hr hc (by omega) (by rw [hst, hq])
  have K7 := px.cell (r := r) (c := c) (ch := 7) (i := q + 7) hr hc (by omega) (by rw [hst, hq])
  have bl2 := px.lt
  have g6 : c ≤ 128 := by omega
  have g7 : r ≤ 128 := by omega
  have B0 := hB r c 0
  have B1 := hB r c 1
  have B2 := hB r c 2
  have B3 := hB r c 3
  have B4 := hB r c 4
  have B5 := hB r c 5
  have B6 := hB r c 6
  have B7 := hB r c 7
  have o0 := or16 B0 B1; have o1 := or16 B2 B3; have o2 := or16 B4 B5; have o3 := or16 B6 B7
  have Hq := hid hq
  have E1 := hid e1
  have E2 := hid e2
  have Hh := hid (And.intro hn hst)
  have HH := hid H
  clear H hq e1 e2 hn hst px hB
  go_enter Tryz.func168, Tryz.ntmps168
  go_wp2_with fail
  refine (in_c x y x0 y0 (x0 + wd) (y0 + h) _ g1 g2 g3 g4).mono ?_
  rintro e w1 ⟨rfl, hg1⟩
  obtain ⟨c1, f1⟩ := gb_rules hg1
  have z1 : w.heap.size < w1.heap.size := by have := hg1.size; simp at this; omega
  have t1 : b < w1.heap.size := by omega
  have t2 : pb < w1.heap.size := by omega
  go_wp2_with fail
  refine (off_RGBA64 b st r c q x y x0 y0 _ (by go_simp) (by go_simp) (by go_simp) E1.out E2.out g6 g7 g5 Hq.out).mono ?_
  rintro e w2 ⟨rfl, hg2⟩
  obtain ⟨c2, f2⟩ := gb_rules hg2
  have z2 : w.heap.size < w2.heap.size := by have := hg2.size; omega
  have t3 : b < w2.heap.size := by omega
  have t4 : pb < w2.heap.size := by omega
  have hgw : w.grownBy w2 none := gb_trans (gb_trans (gb_alloc (gb_refl _ _) _) hg1) hg2
  go_wp2_with fail
  go_still_tail 41, (by kernel_rfl)
  change wpList _ _ _ _ _ w2.drew
  go_wp2_with fail
  exact bodyPost_ret (v := c64 (cl 4 (P r c))) (by simp [results, Tryz.results168, go_sem, c2, c1, z1, cl4, o0, o1, o2, o3]) rfl ⟨rfl, gb_setCell (gb_setCell (gb_setCell (gb_setCell (gb_drew hgw) (.inr (Nat.le_refl _)) _) (.inr (Nat.le_refl _)) _) (.inr (Nat.le_refl _)) _) (.inr (Nat.le_refl _)) _⟩

set_option maxRecDepth 100000 in
set_option maxHeartbeats 4000000 in
theorem NRGBAAt_NRGBA {b T pb h wd r c : Nat} {x0 y0 x y : Int} {P : Nat → Nat → Nat → Int} (w : World) (H : Pic w b T pb 4 h wd x0 y0 P) (e1 : x - x0 = c) (e2 : y - y0 = r) (hc : c < wd) (hr : r < h) :
    Calls Tryz.prog 88 #[.pointer (some ⟨b, 0, none⟩), .int .i64 x, .int .i64 y] w fun e w' => e = .returned (b4 (P r c)) ∧ w.grownBy w' none := by
  obtain ⟨n, cap, st, D0, D1, D2, D3, D4, D5, bl, px, hn, hst, hcap, hcap2, hne, hw, hh, a1, a2, a3, a4, hB⟩ := H.cells
  have g1 : x0 ≤ x := by omega
  have g2 : x < x0 + wd := by omega
  have g3 : y0 ≤ y := by omega
  have g4 : y < y0 + h := by omega
  have g5 : st ≤ 1024 := by omega
  obtain ⟨q, hq⟩ : ∃ q : Nat, q = r * st + c * 4 := ⟨_, rfl⟩
  have hfit := pix_bound hr hc (show 4 - 1 < 4 by omega)
  rw [hst, ← hn, ← hq] at hfit
  have K0 := px.cell (r := r) (c := c) (ch := 0) (i := q) hr hc (by omega) (by rw [hst, hq]; rfl)
  have K1 := px.cell (r := r) (c := c) (ch := 1) (i := q + 1) hr hc (by omega) (by rw [hst, hq])
  have K2 := px.cell (r := r) (c := c) (ch := 2) (i := q + 2) hr hc (by omega) (by rw [hst, hq])
  have K3 := px.cell (r := r) (c := c) (ch := 3) (i := q + 3) hr hc (by omega) (by rw [hst, hq])
  have bl2 := px.lt
  have g6 : c ≤ 128 := by omega
  have g7 : r ≤ 128 := by omega
  have B0 := hB r c 0
  have B1 := hB r c 1
  have B2 := hB r c 2
  have B3 := hB r c 3
  have Hq := hid hq
  have E1 := hid e1
  have E2 := hid e2
  have Hh := hid (And.intro hn hst)
  have HH := hid H
  clear H hq e1 e2 hn hst px hB
  go_enter Tryz.func88, Tryz.ntmps88
  go_wp2_with fail
  refine (in_c x y x0 y0 (x0 + wd) (y0 + h) _ g1 g2 g3 g4).mono ?_
  rintro e w1 ⟨rfl, hg1⟩
  obtain ⟨c1, f1⟩ := gb_rules hg1
  have z1 : w.heap.size < w1.heap.size := by have := hg1.size; simp at this; omega
  have t1 : b < w1.heap.size := by omega
  have t2 : pb < w1.heap.size := by omega
  go_wp2_with fail
  refine (off_NRGBA b st r c q x y x0 y0 _ (by go_simp) (by go_simp) (by go_simp) E1.out E2.out g6 g7 g5 Hq.out).mono ?_
  rintro e w2 ⟨rfl, hg2⟩
  obtain ⟨c2, f2⟩ := gb_rules hg2
  have z2 : w.heap.size < w2.heap.size := by have := hg2.size; omega
  have t3 : b < w2.heap.size := by omega
  have t4 : pb < w2.heap.size := by omega
  have hgw : w.grownBy w2 none := gb_trans (gb_trans (gb_alloc (gb_refl _ _) _) hg1) hg2
  go_wp2_with fail
  go_still_tail 13, (by kernel_rfl)
  change wpList _ _ _ _ _ w2.drew
  go_wp2_with fail
  exact bodyPost_ret (v := b4 (P r c)) (by simp [results, Tryz.results88, go_sem, c2, c1, z1]) rfl ⟨rfl, gb_setCell (gb_setCell (gb_setCell (gb_setCell (gb_drew hgw) (.inr (Nat.le_refl _)) _) (.inr (Nat.le_refl _)) _) (.inr (Nat.le_refl _)) _) (.inr (Nat.le_refl _)) _⟩

set_option maxRecDepth 100000 in
set_option maxHeartbeats 4000000 in
theorem RGBAAt_RGBA {b T pb h wd r c : Nat} {x0 y0 x y : Int} {P : Nat → Nat → Nat → Int} (w : World) (H : Pic w b T pb 4 h wd x0 y0 P) (e1 : x - x0 = c) (e2 : y - y0 = r) (hc : c < wd) (hr : r < h) :
    Calls Tryz.prog 85 #[.pointer (some ⟨b, 0, none⟩), .int .i64 x, .int .i64 y] w fun e w' => e = .returned (b4 (P r c)) ∧ w.grownBy w' none := by
  obtain ⟨n, cap, st, D0, D1, D2, D3, D4, D5, bl, px, hn, hst, hcap, hcap2, hne, hw, hh, a1, a2, a3, a4, hB⟩ := H.cells
  have g1 : x0 ≤ x := by omega
  have g2 : x < x0 + wd := by omega
  have g3 : y0 ≤ y := by omega
  have g4 : y < y0 + h := by omega
  have g5 : st ≤ 1024 := by omega
  obtain ⟨q, hq⟩ : ∃ q : Nat, q = r * st + c * 4 := ⟨_, rfl⟩
  have hfit := pix_bound hr hc (show 4 - 1 < 4 by omega)
  rw [hst, ← hn, ← hq] at hfit
  have K0 := px.cell (r := r) (c := c) (ch := 0) (i := q) hr hc (by omega) (by rw [hst, hq]; rfl)
  have K1 := px.cell (r := r) (c := c) (ch := 1) (i := q + 1) hr hc (by omega) (by rw [hst, hq])
  have K2 := px.cell (r := r) (c := c) (ch := 2) (i := q + 2) hr hc (by omega) (by rw [hst, hq])
  have K3 := px.cell (r := r) (c := c) (ch := 3) (i := q + 3) hr hc (by omega) (by rw [hst, hq])
  have bl2 := px.lt
  have g6 : c ≤ 128 := by omega
  have g7 : r ≤ 128 := by omega
  have B0 := hB r c 0
  have B1 := hB r c 1
  have B2 := hB r c 2
  have B3 := hB r c 3
  have Hq := hid hq
  have E1 := hid e1
  have E2 := hid e2
  have Hh := hid (And.intro hn hst)
  have HH := hid H
  clear H hq e1 e2 hn hst px hB
  go_enter Tryz.func85, Tryz.ntmps85
  go_wp2_with fail
  refine (in_c x y x0 y0 (x0 + wd) (y0 + h) _ g1 g2 g3 g4).mono ?_
  rintro e w1 ⟨rfl, hg1⟩
  obtain ⟨c1, f1⟩ := gb_rules hg1
  have z1 : w.heap.size < w1.heap.size := by have := hg1.size; simp at this; omega
  have t1 : b < w1.heap.size := by omega
  have t2 : pb < w1.heap.size := by omega
  go_wp2_with fail
  refine (off_RGBA b st r c q x y x0 y0 _ (by go_simp) (by go_simp) (by go_simp) E1.out E2.out g6 g7 g5 Hq.out).mono ?_
  rintro e w2 ⟨rfl, hg2⟩
  obtain ⟨c2, f2⟩ := gb_rules hg2
  have z2 : w.heap.size < w2.heap.size := by have := hg2.size; omega
  have t3 : b < w2.heap.size := by omega
  have t4 : pb < w2.heap.size := by omega
  have hgw : w.grownBy w2 none := gb_trans (gb_trans (gb_alloc (gb_refl _ _) _) hg1) hg2
  go_wp2_with fail
  go_still_tail 13, (by kernel_rfl)
  change wpList _ _ _ _ _ w2.drew
  go_wp2_with fail
  exact bodyPost_ret (v := b4 (P r c)) (by simp [results, Tryz.results85, go_sem, c2, c1, z1]) rfl ⟨rfl, gb_setCell (gb_setCell (gb_setCell (gb_setCell (gb_drew hgw) (.inr (Nat.le_refl _)) _) (.inr (Nat.le_refl _)) _) (.inr (Nat.le_refl _)) _) (.inr (Nat.le_refl _)) _⟩

set_option maxRecDepth 100000 in
set_option maxHeartbeats 4000000 in
theorem CMYKAt_CMYK {b T pb h wd r c : Nat} {x0 y0 x y : Int} {P : Nat → Nat → Nat → Int} (w : World) (H : Pic w b T pb 4 h wd x0 y0 P) (e1 : x - x0 = c) (e2 : y - y0 = r) (hc : c < wd) (hr : r < h) :
    Calls Tryz.prog 181 #[.pointer (some ⟨b, 0, none⟩), .int .i64 x, .int .i64 y] w fun e w' => e = .returned (b4 (P r c)) ∧ w.grownBy w' none := by
  obtain ⟨n, cap, st, D0, D1, D2, D3, D4, D5, bl, px, hn, hst, hcap, hcap2, hne, hw, hh, a1, a2, a3, a4, hB⟩ := H.cells
  have g1 : x0 ≤ x := by omega
  have g2 : x < x0 + wd := by omega
  have g3 : y0 ≤ y := by omega
  have g4 : y < y0 + h := by omega
  have g5 : st ≤ 1024 := by omega
  obtain ⟨q, hq⟩ : ∃ q : Nat, q = r * st + c * 4 := ⟨_, rfl⟩
  have hfit := pix_bound hr hc (show 4 - 1 < 4 by omega)
  rw [hst, ← hn, ← hq] at hfit
  have K0 := px.cell (r := r) (c := c) (ch := 0) (i := q) hr hc (by omega) (by rw [hst, hq]; rfl)
  have K1 := px.cell (r := r) (c := c) (ch := 1) (i := q + 1) hr hc (by omega) (by rw [hst, hq])
  have K2 := px.cell (r := r) (c := c) (ch := 2) (i := q + 2) hr hc (by omega) (by rw [hst, hq])
  have K3 := px.cell (r := r) (c := c) (ch := 3) (i := q + 3) hr hc (by omega) (by rw [hst, hq])
  have bl2 := px.lt
  have g6 : c ≤ 128 := by omega
  have g7 : r ≤ 128 := by omega
  have B0 := hB r c 0
  have B1 := hB r c 1
  have B2 := hB r c 2
  have B3 := hB r c 3
  have Hq := hid hq
  have E1 := hid e1
  have E2 := hid e2
  have Hh := hid (And.intro hn hst)
  have HH := hid H
  clear H hq e1 e2 hn hst px hB
  go_enter Tryz.func181, Tryz.ntmps181
  go_wp2_with fail
  refine (in_c x y x0 y0 (x0 + wd) (y0 + h) _ g1 g2 g3 g4).mono ?_
  rintro e w1 ⟨rfl, hg1⟩
  obtain ⟨c1, f1⟩ := gb_rules hg1
  have z1 : w.heap.size < w1.heap.size := by have := hg1.size; simp at this; omega
  have t1 : b < w1.heap.size := by omega
  have t2 : pb < w1.heap.size := by omega
  go_wp2_with fail
  refine (off_CMYK b st r c q x y x0 y0 _ (by go_simp) (by go_simp) (by go_simp) E1.out E2.out g6 g7 g5 Hq.out).mono ?_
  rintro e w2 ⟨rfl, hg2⟩
  obtain ⟨c2, f2⟩ := gb_rules hg2
  have z2 : w.heap.size < w2.heap.size := by have := hg2.size; omega
  have t3 : b < w2.heap.size := by omega
  have t4 : pb < w2.heap.size := by omega
  have hgw : w.grownBy w2 none := gb_trans (gb_trans (gb_alloc (gb_refl _ _) _) hg1) hg2
  go_wp2_with fail
  go_still_tail 13, (by kernel_rfl)
  change wpList _ _ _ _ _ w2.drew
  go_wp2_with fail
  exact bodyPost_ret (v := b4 (P r c)) (by simp [results, Tryz.results181, go_sem, c2, c1, z1]) rfl ⟨rfl, gb_setCell (gb_setCell (gb_setCell (gb_setCell (gb_drew hgw) (.inr (Nat.le_refl _)) _) (.inr (Nat.le_refl _)) _) (.inr (Nat.le_refl _)) _) (.inr (Nat.le_refl _)) _⟩

set_option maxRecDepth 100000 in
set_option maxHeartbeats 4000000 in
theorem AlphaAt_Alpha {b T pb h wd r c : Nat} {x0 y0 x y : Int} {P : Nat → Nat → Nat → Int} (w : World) (H : Pic w b T pb 1 h wd x0 y0 P) (e1 : x - x0 = c) (e2 : y - y0 = r) (hc : c < wd) (hr : r < h) :
    Calls Tryz.prog 151 #[.pointer (some ⟨b, 0, none⟩), .int .i64 x, .int .i64 y] w fun e w' => e = .returned (.agg #[.int .u8 (P r c 0)]) ∧ w.grownBy w' none := by
  obtain ⟨n, cap, st, D0, D1, D2, D3, D4, D5, bl, px, hn, hst, hcap, hcap2, hne, hw, hh, a1, a2, a3, a4, hB⟩ := H.cells
  have g1 : x0 ≤ x := by omega
  have g2 : x < x0 + wd := by omega
  have g3 : y0 ≤ y := by omega
  have g4 : y < y0 + h := by omega
  have g5 : st ≤ 1024 := by omega
  obtain ⟨q, hq⟩ : ∃ q : Nat, q = r * st + c * 1 := ⟨_, rfl⟩
  have hfit := pix_bound hr hc (show 1 - 1 < 1 by omega)
  rw [hst, ← hn, ← hq] at hfit
  have K0 := px.cell (r := r) (c := c) (ch := 0) (i := q) hr hc (by omega) (by rw [hst, hq]; rfl)
  have bl2 := px.lt
  have g6 : c ≤ 128 := by omega
  have g7 : r ≤ 128 := by omega
  have B0 := hB r c 0
  have Hq := hid hq
  have E1 := hid e1
  have E2 := hid e2
  have Hh := hid (And.intro hn hst)
  have HH := hid H
  clear H hq e1 e2 hn hst px hB
  go_enter Tryz.func151, Tryz.ntmps151
  go_wp2_with fail
  refine (in_c x y x0 y0 (x0 + wd) (y0 + h) _ g1 g2 g3 g4).mono ?_
  rintro e w1 ⟨rfl, hg1⟩
  obtain ⟨c1, f1⟩ := gb_rules hg1
  have z1 : w.heap.size < w1.heap.size := by have := hg1.size; simp at this; omega
  have t1 : b < w1.heap.size := by omega
  have t2 : pb < w1.heap.size := by omega
  go_wp2_with fail
  refine (off_Alpha b st r c q x y x0 y0 _ (by go_simp) (by go_simp) (by go_simp) E1.out E2.out g6 g7 g5 Hq.out).mono ?_
  rintro e w2 ⟨rfl, hg2⟩
  obtain ⟨c2, f2⟩ := gb_rules hg2
  have z2 : w.heap.size < w2.heap.size := by have := hg2.size; omega
  have t3 : b < w2.heap.size := by omega
  have t4 : pb < w2.heap.size := by omega
  have hgw : w.grownBy w2 none := gb_trans (gb_trans (gb_alloc (gb_refl _ _) _) hg1) hg2
  go_wp2_with fail
  exact bodyPost_ret (v := .agg #[.int .u8 (P r c 0)]) (by simp [results, Tryz.results151, go_sem, c2, c1, z1]) rfl ⟨rfl, gb_setCell (hgw) (.inr (Nat.le_refl _)) _⟩

set_option maxRecDepth 100000 in
set_option maxHeartbeats 4000000 in
theorem GrayAt_Gray {b T pb h wd r c : Nat} {x0 y0 x y : Int} {P : Nat → Nat → Nat → Int} (w : World) (H : Pic w b T pb 1 h wd x0 y0 P) (e1 : x - x0 = c) (e2 : y - y0 = r) (hc : c < wd) (hr : r < h) :
    Calls Tryz.prog 161 #[.pointer (some ⟨b, 0, none⟩), .int .i64 x, .int .i64 y] w fun e w' => e = .returned (.agg #[.int .u8 (P r c 0)]) ∧ w.grownBy w' none := by
  obtain ⟨n, cap, st, D0, D1, D2, D3, D4, D5, bl, px, hn, hst, hcap, hcap2, hne, hw, hh, a1, a2, a3, a4, hB⟩ := H.cells
  have g1 : x0 ≤ x := by omega
  have g2 : x < x0 + wd := by omega
  have g3 : y0 ≤ y := by omega
  have g4 : y < y0 + h := by omega
  have g5 : st ≤ 1024 := by omega
  obtain ⟨q, hq⟩ : ∃ q : Nat, q = r * st + c * 1 := ⟨_, rfl⟩
  have hfit := pix_bound hr hc (show 1 - 1 < 1 by omega)
  rw [hst, ← hn, ← hq] at hfit
  have K0 := px.cell (r := r) (c := c) (ch := 0) (i := q) hr hc (by omega) (by rw [hst, hq]; rfl)
  have bl2 := px.lt
  have g6 : c ≤ 128 := by omega
  have g7 : r ≤ 128 := by omega
  have B0 := hB r c 0
  have Hq := hid hq
  have E1 := hid e1
  have E2 := hid e2
  have Hh := hid (And.intro hn hst)
  have HH := hid H
  clear H hq e1 e2 hn hst px hB
  go_enter Tryz.func161, Tryz.ntmps161
  go_wp2_with fail
  refine (in_c x y x0 y0 (x0 + wd) (y0 + h) _ g1 g2 g3 g4).mono ?_
  rintro e w1 ⟨rfl, hg1⟩
  obtain ⟨c1, f1⟩ := gb_rules hg1
  have z1 : w.heap.size < w1.heap.size := by have := hg1.size; simp at this; omega
  have t1 : b < w1.heap.size := by omega
  have t2 : pb < w1.heap.size := by omega
  go_wp2_with fail
  refine (off_Gray b st r c q x y x0 y0 _ (by go_simp) (by go_simp) (by go_simp) E1.out E2.out g6 g7 g5 Hq.out).mono ?_
  rintro e w2 ⟨rfl, hg2⟩
  obtain ⟨c2, f2⟩ := gb_rules hg2
  have z2 : w.heap.size < w2.heap.size := by have := hg2.size; omega
  have t3 : b < w2.heap.size := by omega
  have t4 : pb < w2.heap.size := by omega
  have hgw : w.grownBy w2 none := gb_trans (gb_trans (gb_alloc (gb_refl _ _) _) hg1) hg2
  go_wp2_with fail
  exact bodyPost_ret (v := .agg #[.int .u8 (P r c 0)]) (by simp [results, Tryz.results161, go_sem, c2, c1, z1]) rfl ⟨rfl, gb_setCell (hgw) (.inr (Nat.le_refl _)) _⟩
end Go.Proofs.YtgjpohmjkhgpfaaGreat
