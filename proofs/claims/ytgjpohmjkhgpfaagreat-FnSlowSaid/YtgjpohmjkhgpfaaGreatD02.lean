/- Parts of the proof: what the functions of the package and of the reference do (W5, W6, S, K). No condition but those that each theorem names. -/
import Derived.Test.YtgjpohmjkhgpfaaGreatD01
import Derived.StillTailTactics
import Derived.Maps.AppendAt
set_option linter.unusedSimpArgs false
set_option linter.unusedVariables false
namespace Go.Proofs.YtgjpohmjkhgpfaaGreat
open Go.RowKit

set_option maxRecDepth 100000 in
set_option maxHeartbeats 4000000 in
theorem RGBA64At_RGBA {b T pb h wd r c : Nat} {x0 y0 x y : Int} {P : Nat → Nat → Nat → Int} (w : World) (H : Pic w b T pb 4 h wd x0 y0 P) (e1 : x - x0 = c) (e2 : y - y0 = r) (hc : c < wd) (hr : r < h) :
    Calls Tryz.prog 129 #[.pointer (some ⟨b, 0, none⟩), .int .i64 x, .int .i64 y] w fun e w' => e = .returned (c64 (cl 0 (P r c))) ∧ w.grownBy w' none := by
  obtain ⟨n, cap, st, D0, D1, D2, D3, D4, D5, bl, px, hn, hst, hcap, hcap2, hne, hw, hh, a1, a2, a3, a4, hB⟩ := H.cells
  have g1 : x0 ≤ x := by omega
  have g2 : x < x0 + wd := by omega
  have g3 : y0 ≤ y := by omega
  have g4 : y < y0 + h := by omega
  have g5 : st ≤ 1024 := by omega
  obtain ⟨q, hq⟩ : ∃ q : Nat, q = r * st + c * 4 := ⟨_, rfl⟩
  have hfit := pix_bound hr hc (show 4 - 1 < 4 by omega)
  rw [hst, ← hn, ← hq] at hfit
  have K0 := px.cell (r := r) (c := c) (ch := 0) (i := q) hr hc (by omega) (by rw [hst, hq]; rfl)
  have K1 := px.cell (r := r) (c := c) (ch := 1) (i := q + 1) hr hc (by omega) (by rw [hst, hq])
  have K2 := px.cell (r := r) (c := c) (ch := 2) (i := q + 2) hr hc (by omega) (by rw [hst, hq])
  have K3 := px.cell (r := r) (c := c) (ch := 3) (i := q + 3) hr hc (by omega) (by rw [hst, hq])
  have bl2 := px.lt
  have g6 : c ≤ 128 := by omega
  have g7 : r ≤ 128 := by omega
  have B0 := hB r c 0
  have B1 := hB r c 1
  have B2 := hB r c 2
  have B3 := hB r c 3
  have o0 := or257' B0; have o1 := or257' B1; have o2 := or257' B2; have o3 := or257' B3
  have Hq := hid hq
  have E1 := hid e1
  have E2 := hid e2
  have Hh := hid (And.intro hn hst)
  have HH := hid H
  clear H hq e1 e2 hn hst px hB
  go_enter Tryz.func129, Tryz.ntmps129
  go_wp2_with fail
  refine (in_c x y x0 y0 (x0 + wd) (y0 + h) _ g1 g2 g3 g4).mono ?_
  rintro e w1 ⟨rfl, hg1⟩
  obtain ⟨c1, f1⟩ := gb_rules hg1
  have z1 : w.heap.size < w1.heap.size := by have := hg1.size; simp at this; omega
  have t1 : b < w1.heap.size := by omega
  have t2 : pb < w1.heap.size := by omega
  go_wp2_with fail
  refine (off_RGBA b st r c q x y x0 y0 _ (by go_simp) (by go_simp) (by go_simp) E1.out E2.out g6 g7 g5 Hq.out).mono ?_
  rintro e w2 ⟨rfl, hg2⟩
  obtain ⟨c2, f2⟩ := gb_rules hg2
  have z2 : w.heap.size < w2.heap.size := by have := hg2.size; omega
  have t3 : b < w2.heap.size := by omega
  have t4 : pb < w2.heap.size := by omega
  have hgw : w.grownBy w2 none := gb_trans (gb_trans (gb_alloc (gb_refl _ _) _) hg1) hg2
  go_wp2_with fail
  exact bodyPost_ret (v := c64 (cl 0 (P r c))) (by simp [results, Tryz.results129, go_sem, c2, c1, z1, cl0]) rfl ⟨rfl, gb_setCell (gb_setCell (gb_setCell (gb_setCell (hgw) (.inr (Nat.le_refl _)) _) (.inr (Nat.le_refl _)) _) (.inr (Nat.le_refl _)) _) (.inr (Nat.le_refl _)) _⟩

set_option maxRecDepth 100000 in
set_option maxHeartbeats 4000000 in
theorem RGBA64At_RGBA64 {b T pb h wd r c : Nat} {x0 y0 x y : Int} {P : Nat → Nat → Nat → Int} (w : World) (H : Pic w b T pb 8 h wd x0 y0 P) (e1 : x - x0 = c) (e2 : y - y0 = r) (hc : c < wd) (hr : r < h) :
    Calls Tryz.prog 168 #[.pointer (some ⟨b, 0, none⟩), .int .i64 x, .int .i64 y] w fun e w' => e = .returned (c64 (cl 4 (P r c))) ∧ w.grownBy w' none := by
  obtain ⟨n, cap, st, D0, D1, D2, D3, D4, D5, bl, px, hn, hst, hcap, hcap2, hne, hw, hh, a1, a2, a3, a4, hB⟩ := H.cells
  have g1 : x0 ≤ x := by omega
  have g2 : x < x0 + wd := by omega
  have g3 : y0 ≤ y := by omega
  have g4 : y < y0 + h := by omega
  have g5 : st ≤ 1024 := by omega
  obtain ⟨q, hq⟩ : ∃ q : Nat, q = r * st + c * 8 := ⟨_, rfl⟩
  have hfit := pix_bound hr hc (show 8 - 1 < 8 by omega)
  rw [hst, ← hn, ← hq] at hfit
  have K0 := px.cell (r := r) (c := c) (ch := 0) (i := q) hr hc (by omega) (by rw [hst, hq]; rfl)
  have K1 := px.cell (r := r) (c := c) (ch := 1) (i := q + 1) hr hc (by omega) (by rw [hst, hq])
  have K2 := px.cell (r := r) (c := c) (ch := 2) (i := q + 2) hr hc (by omega) (by rw [hst, hq])
  have K3 := px.cell (r := r) (c := c) (ch := 3) (i := q + 3) hr hc (by omega) (by rw [hst, hq])
  have K4 := px.cell (r := r) (c := c) (ch := 4) (i := q + 4) hr hc (by omega) (by rw [hst, hq])
  have K5 := px.cell (r := r) (c := c) (ch := 5) (i := q + 5) hr hc (by omega) (by rw [hst, hq])
  have K6 := px.cell (r := r) (c := c) (ch := 6) (i := q + 6) hr hc (by omega) (by rw [hst, hq])
  have K7 := px.cell (r := r) (c := c) (ch := 7) (i := q + 7) hr hc (by omega) (by rw [hst, hq])
  have bl2 := px.lt
  have g6 : c ≤ 128 := by omega
  have g7 : r ≤ 128 := by omega
  have B0 := hB r c 0
  have B1 := hB r c 1
  have B2 := hB r c 2
  have B3 := hB r c 3
  have B4 := hB r c 4
  have B5 := hB r c 5
  have B6 := hB r c 6
  have B7 := hB r c 7
  have o0 := or16 B0 B1; have o1 := or16 B2 B3; have o2 := or16 B4 B5; have o3 := or16 B6 B7
  have Hq := hid hq
  have E1 := hid e1
  have E2 := hid e2
  have Hh := hid (And.intro hn hst)
  have HH := hid H
  clear H hq e1 e2 hn hst px hB
  go_enter Tryz.func168, Tryz.ntmps168
  go_wp2_with fail
  refine (in_c x y x0 y0 (x0 + wd) (y0 + h) _ g1 g2 g3 g4).mono ?_
  rintro e w1 ⟨rfl, hg1⟩
  obtain ⟨c1, f1⟩ := gb_rules hg1
  have z1 : w.heap.size < w1.heap.size := by have := hg1.size; simp at this; omega
  have t1 : b < w1.heap.size := by omega
  have t2 : pb < w1.heap.size := by omega
  go_wp2_with fail
  refine (off_RGBA64 b st r c q x y x0 y0 _ (by go_simp) (by go_simp) (by go_simp) E1.out E2.out g6 g7 g5 Hq.out).mono ?_
  rintro e w2 ⟨rfl, hg2⟩
  obtain ⟨c2, f2⟩ := gb_rules hg2
  have z2 : w.heap.size < w2.heap.size := by have := hg2.size; omega
  have t3 : b < w2.heap.size := by omega
  have t4 : pb < w2.heap.size := by omega
  have hgw : w.grownBy w2 none := gb_trans (gb_trans (gb_alloc (gb_refl _ _) _) hg1) hg2
  go_wp2_with fail
  go_still_tail 41, (by kernel_rfl)
  change wpList _ _ _ _ _ w2.drew
  go_wp2_with fail
  exact bodyPost_ret (v := c64 (cl 4 (P r c))) (by simp [results, Tryz.results168, go_sem, c2, c1, z1, cl4, o0, o1, o2, o3]) rfl ⟨rfl, gb_setCell (gb_setCell (gb_setCell (gb_setCell (gb_drew hgw) (.inr (Nat.le_refl _)) _) (.inr (Nat.le_refl _)) _) (.inr (Nat.le_refl _)) _) (.inr (Nat.le_refl _)) _⟩

set_option maxRecDepth 100000 in
set_option maxHeartbeats 4000000 in
theorem NRGBAAt_NRGBA {b T pb h wd r c : Nat} {x0 y0 x y : Int} {P : Nat → Nat → Nat → Int} (w : World) (H : Pic w b T pb 4 h wd x0 y0 P) (e1 : x - x0 = c) (e2 : y - y0 = r) (hc : c < wd) (hr : r < h) :
    Calls Tryz.prog 88 #[.pointer (some ⟨b, 0, none⟩), .int .i64 x, .int .i64 y] w fun e w' => e = .returned (b4 (P r c)) ∧ w.grownBy w' none := by
  obtain ⟨n, cap, st, D0, D1, D2, D3, D4, D5, bl, px, hn, hst, hcap, hcap2, hne, hw, hh, a1, a2, a3, a4, hB⟩ := H.cells
  have g1 : x0 ≤ x := by omega
  have g2 : x < x0 + wd := by omega
  have g3 : y0 ≤ y := by omega
  have g4 : y < y0 + h := by omega
  have g5 : st ≤ 1024 := by omega
  obtain ⟨q, hq⟩ : ∃ q : Nat, q = r * st + c * 4 := ⟨_, rfl⟩
  have hfit := pix_bound hr hc (show 4 - 1 < 4 by omega)
  rw [hst, ← hn, ← hq] at hfit
  have K0 := px.cell (r := r) (c := c) (ch := 0) (i := q) hr hc (by omega) (by rw [hst, hq]; rfl)
  have K1 := px.cell (r := r) (c := c) (ch := 1) (i := q + 1) hr hc (by omega) (by rw [hst, hq])
  have K2 := px.cell (r := r) (c := c) (ch := 2) (i := q + 2) hr hc (by omega) (by rw [hst, hq])
  have K3 := px.cell (r := r) (c := c) (ch := 3) (i := q + 3) hr hc (by omega) (by rw [hst, hq])
  have bl2 := px.lt
  have g6 : c ≤ 128 := by omega
  have g7 : r ≤ 128 := by omega
  have B0 := hB r c 0
  have B1 := hB r c 1
  have B2 := hB r c 2
  have B3 := hB r c 3
  have Hq := hid hq
  have E1 := hid e1
  have E2 := hid e2
  have Hh := hid (And.intro hn hst)
  have HH := hid H
  clear H hq e1 e2 hn hst px hB
  go_enter Tryz.func88, Tryz.ntmps88
  go_wp2_with fail
  refine (in_c x y x0 y0 (x0 + wd) (y0 + h) _ g1 g2 g3 g4).mono ?_
  rintro e w1 ⟨rfl, hg1⟩
  obtain ⟨c1, f1⟩ := gb_rules hg1
  have z1 : w.heap.size < w1.heap.size := by have := hg1.size; simp at this; omega
  have t1 : b < w1.heap.size := by omega
  have t2 : pb < w1.heap.size := by omega
  go_wp2_with fail
  refine (off_NRGBA b st r c q x y x0 y0 _ (by go_simp) (by go_simp) (by go_simp) E1.out E2.out g6 g7 g5 Hq.out).mono ?_
  rintro e w2 ⟨rfl, hg2⟩
  obtain ⟨c2, f2⟩ := gb_rules hg2
  have z2 : w.heap.size < w2.heap.size := by have := hg2.size; omega
  have t3 : b < w2.heap.size := by omega
  have t4 : pb < w2.heap.size := by omega
  have hgw : w.grownBy w2 none := gb_trans (gb_trans (gb_alloc (gb_refl _ _) _) hg1) hg2
  go_wp2_with fail
  go_still_tail 13, (by kernel_rfl)
  change wpList _ _ _ _ _ w2.drew
  go_wp2_with fail
  exact bodyPost_ret (v := b4 (P r c)) (by simp [results, Tryz.results88, go_sem, c2, c1, z1]) rfl ⟨rfl, gb_setCell (gb_setCell (gb_setCell (gb_setCell (gb_drew hgw) (.inr (Nat.le_refl _)) _) (.inr (Nat.le_refl _)) _) (.inr (Nat.le_refl _)) _) (.inr (Nat.le_refl _)) _⟩

set_option maxRecDepth 100000 in
set_option maxHeartbeats 4000000 in
theorem RGBAAt_RGBA {b T pb h wd r c : Nat} {x0 y0 x y : Int} {P : Nat → Nat → Nat → Int} (w : World) (H : Pic w b T pb 4 h wd x0 y0 P) (e1 : x - x0 = c) (e2 : y - y0 = r) (hc : c < wd) (hr : r < h) :
    Calls Tryz.prog 85 #[.pointer (some ⟨b, 0, none⟩), .int .i64 x, .int .i64 y] w fun e w' => e = .returned (b4 (P r c)) ∧ w.grownBy w' none := by
  obtain ⟨n, cap, st, D0, D1, D2, D3, D4, D5, bl, px, hn, hst, hcap, hcap2, hne, hw, hh, a1, a2, a3, a4, hB⟩ := H.cells
  have g1 : x0 ≤ x := by omega
  have g2 : x < x0 + wd := by omega
  have g3 : y0 ≤ y := by omega
  have g4 : y < y0 + h := by omega
  have g5 : st ≤ 1024 := by omega
  obtain ⟨q, hq⟩ : ∃ q : Nat, q = r * st + c * 4 := ⟨_, rfl⟩
  have hfit := pix_bound hr hc (show 4 - 1 < 4 by omega)
  rw [hst, ← hn, ← hq] at hfit
  have K0 := px.cell (r := r) (c := c) (ch := 0) (i := q) hr hc (by omega) (by rw [hst, hq]; rfl)
  have K1 := px.cell (r := r) (c := c) (ch := 1) (i := q + 1) hr hc (by omega) (by rw [hst, hq])
  have K2 := px.cell (r := r) (c := c) (ch := 2) (i := q + 2) hr hc (by omega) (by rw [hst, hq])
  have K3 := px.cell (r := r) (c := c) (ch := 3) (i := q + 3) hr hc (by omega) (by rw [hst, hq])
  have bl2 := px.lt
  have g6 : c ≤ 128 := by omega
  have g7 : r ≤ 128 := by omega
  have B0 := hB r c 0
  have B1 := hB r c 1
  have B2 := hB r c 2
  have B3 := hB r c 3
  have Hq := hid hq
  have E1 := hid e1
  have E2 := hid e2
  have Hh := hid (And.intro hn hst)
  have HH := hid H
  clear H hq e1 e2 hn hst px hB
  go_enter Tryz.func85, Tryz.ntmps85
  go_wp2_with fail
  refine (in_c x y x0 y0 (x0 + wd) (y0 + h) _ g1 g2 g3 g4).mono ?_
  rintro e w1 ⟨rfl, hg1⟩
  obtain ⟨c1, f1⟩ := gb_rules hg1
  have z1 : w.heap.size < w1.heap.size := by have := hg1.size; simp at this; omega
  have t1 : b < w1.heap.size := by omega
  have t2 : pb < w1.heap.size := by omega
  go_wp2_with fail
  refine (off_RGBA b st r c q x y x0 y0 _ (by go_simp) (by go_simp) (by go_simp) E1.out E2.out g6 g7 g5 Hq.out).mono ?_
  rintro e w2 ⟨rfl, hg2⟩
  obtain ⟨c2, f2⟩ := gb_rules hg2
  have z2 : w.heap.size < w2.heap.size := by have := hg2.size; omega
  have t3 : b < w2.heap.size := by omega
  have t4 : pb < w2.heap.size := by omega
  have hgw : w.grownBy w2 none := gb_trans (gb_trans (gb_alloc (gb_refl _ _) _) hg1) hg2
  go_wp2_with fail
  go_still_tail 13, (by kernel_rfl)
  change wpList _ _ _ _ _ w2.drew
  go_wp2_with fail
  exact bodyPost_ret (v := b4 (P r c)) (by simp [results, Tryz.results85, go_sem, c2, c1, z1]) rfl ⟨rfl, gb_setCell (gb_setCell (gb_setCell (gb_setCell (gb_drew hgw) (.inr (Nat.le_refl _)) _) (.inr (Nat.le_refl _)) _) (.inr (Nat.le_refl _)) _) (.inr (Nat.le_refl _)) _⟩

set_option maxRecDepth 100000 in
set_option maxHeartbeats 4000000 in
theorem CMYKAt_CMYK {b T pb h wd r c : Nat} {x0 y0 x y : Int} {P : Nat → Nat → Nat → Int} (w : World) (H : Pic w b T pb 4 h wd x0 y0 P) (e1 : x - x0 = c) (e2 : y - y0 = r) (hc : c < wd) (hr : r < h) :
    Calls Tryz.prog 181 #[.pointer (some ⟨b, 0, none⟩), .int .i64 x, .int .i64 y] w fun e w' => e = .returned (b4 (P r c)) ∧ w.grownBy w' none := by
  obtain ⟨n, cap, st, D0, D1, D2, D3, D4, D5, bl, px, hn, hst, hcap, hcap2, hne, hw, hh, a1, a2, a3, a4, hB⟩ := H.cells
  have g1 : x0 ≤ x := by omega
  have g2 : x < x0 + wd := by omega
  have g3 : y0 ≤ y := by omega
  have g4 : y < y0 + h := by omega
  have g5 : st ≤ 1024 := by omega
  obtain ⟨q, hq⟩ : ∃ q : Nat, q = r * st + c * 4 := ⟨_, rfl⟩
  have hfit := pix_bound hr hc (show 4 - 1 < 4 by omega)
  rw [hst, ← hn, ← hq] at hfit
  have K0 := px.cell (r := r) (c := c) (ch := 0) (i := q) hr hc (by omega) (by rw [hst, hq]; rfl)
  have K1 := px.cell (r := r) (c := c) (ch := 1) (i := q + 1) hr hc (by omega) (by rw [hst, hq])
  have K2 := px.cell (r := r) (c := c) (ch := 2) (i := q + 2) hr hc (by omega) (by rw [hst, hq])
  have K3 := px.cell (r := r) (c := c) (ch := 3) (i := q + 3) hr hc (by omega) (by rw [hst, hq])
  have bl2 := px.lt
  have g6 : c ≤ 128 := by omega
  have g7 : r ≤ 128 := by omega
  have B0 := hB r c 0
  have B1 := hB r c 1
  have B2 := hB r c 2
  have B3 := hB r c 3
  have Hq := hid hq
  have E1 := hid e1
  have E2 := hid e2
  have Hh := hid (And.intro hn hst)
  have HH := hid H
  clear H hq e1 e2 hn hst px hB
  go_enter Tryz.func181, Tryz.ntmps181
  go_wp2_with fail
  refine (in_c x y x0 y0 (x0 + wd) (y0 + h) _ g1 g2 g3 g4).mono ?_
  rintro e w1 ⟨rfl, hg1⟩
  obtain ⟨c1, f1⟩ := gb_rules hg1
  have z1 : w.heap.size < w1.heap.size := by have := hg1.size; simp at this; omega
  have t1 : b < w1.heap.size := by omega
  have t2 : pb < w1.heap.size := by omega
  go_wp2_with fail
  refine (off_CMYK b st r c q x y x0 y0 _ (by go_simp) (by go_simp) (by go_simp) E1.out E2.out g6 g7 g5 Hq.out).mono ?_
  rintro e w2 ⟨rfl, hg2⟩
  obtain ⟨c2, f2⟩ := gb_rules hg2
  have z2 : w.heap.size < w2.heap.size := by have := hg2.size; omega
  have t3 : b < w2.heap.size := by omega
  have t4 : pb < w2.heap.size := by omega
  have hgw : w.grownBy w2 none := gb_trans (gb_trans (gb_alloc (gb_refl _ _) _) hg1) hg2
  go_wp2_with fail
  go_still_tail 13, (by kernel_rfl)
  change wpList _ _ _ _ _ w2.drew
  go_wp2_with fail
  exact bodyPost_ret (v := b4 (P r c)) (by simp [results, Tryz.results181, go_sem, c2, c1, z1]) rfl ⟨rfl, gb_setCell (gb_setCell (gb_setCell (gb_setCell (gb_drew hgw) (.inr (Nat.le_refl _)) _) (.inr (Nat.le_refl _)) _) (.inr (Nat.le_refl _)) _) (.inr (Nat.le_refl _)) _⟩

set_option maxRecDepth 100000 in
set_option maxHeartbeats 4000000 in
theorem AlphaAt_Alpha {b T pb h wd r c : Nat} {x0 y0 x y : Int} {P : Nat → Nat → Nat → Int} (w : World) (H : Pic w b T pb 1 h wd x0 y0 P) (e1 : x - x0 = c) (e2 : y - y0 = r) (hc : c < wd) (hr : r < h) :
    Calls Tryz.prog 151 #[.pointer (some ⟨b, 0, none⟩), .int .i64 x, .int .i64 y] w fun e w' => e = .returned (.agg #[.int .u8 (P r c 0)]) ∧ w.grownBy w' none := by
  obtain ⟨n, cap, st, D0, D1, D2, D3, D4, D5, bl, px, hn, hst, hcap, hcap2, hne, hw, hh, a1, a2, a3, a4, hB⟩ := H.cells
  have g1 : x0 ≤ x := by omega
  have g2 : x < x0 + wd := by omega
  have g3 : y0 ≤ y := by omega
  have g4 : y < y0 + h := by omega
  have g5 : st ≤ 1024 := by omega
  obtain ⟨q, hq⟩ : ∃ q : Nat, q = r * st + c * 1 := ⟨_, rfl⟩
  have hfit := pix_bound hr hc (show 1 - 1 < 1 by omega)
  rw [hst, ← hn, ← hq] at hfit
  have K0 := px.cell (r := r) (c := c) (ch := 0) (i := q) hr hc (by omega) (by rw [hst, hq]; rfl)
  have bl2 := px.lt
  have g6 : c ≤ 128 := by omega
  have g7 : r ≤ 128 := by omega
  have B0 := hB r c 0
  have Hq := hid hq
  have E1 := hid e1
  have E2 := hid e2
  have Hh := hid (And.intro hn hst)
  have HH := hid H
  clear H hq e1 e2 hn hst px hB
  go_enter Tryz.func151, Tryz.ntmps151
  go_wp2_with fail
  refine (in_c x y x0 y0 (x0 + wd) (y0 + h) _ g1 g2 g3 g4).mono ?_
  rintro e w1 ⟨rfl, hg1⟩
  obtain ⟨c1, f1⟩ := gb_rules hg1
  have z1 : w.heap.size < w1.heap.size := by have := hg1.size; simp at this; omega
  have t1 : b < w1.heap.size := by omega
  have t2 : pb < w1.heap.size := by omega
  go_wp2_with fail
  refine (off_Alpha b st r c q x y x0 y0 _ (by go_simp) (by go_simp) (by go_simp) E1.out E2.out g6 g7 g5 Hq.out).mono ?_
  rintro e w2 ⟨rfl, hg2⟩
  obtain ⟨c2, f2⟩ := gb_rules hg2
  have z2 : w.heap.size < w2.heap.size := by have := hg2.size; omega
  have t3 : b < w2.heap.size := by omega
  have t4 : pb < w2.heap.size := by omega
  have hgw : w.grownBy w2 none := gb_trans (gb_trans (gb_alloc (gb_refl _ _) _) hg1) hg2
  go_wp2_with fail
  exact bodyPost_ret (v := .agg #[.int .u8 (P r c 0)]) (by simp [results, Tryz.results151, go_sem, c2, c1, z1]) rfl ⟨rfl, gb_setCell (hgw) (.inr (Nat.le_refl _)) _⟩

set_option maxRecDepth 100000 in
set_option maxHeartbeats 4000000 in
theorem GrayAt_Gray {b T pb h wd r c : Nat} {x0 y0 x y : Int} {P : Nat → Nat → Nat → Int} (w : World) (H : Pic w b T pb 1 h wd x0 y0 P) (e1 : x - x0 = c) (e2 : y - y0 = r) (hc : c < wd) (hr : r < h) :
    Calls Tryz.prog 161 #[.pointer (some ⟨b, 0, none⟩), .int .i64 x, .int .i64 y] w fun e w' => e = .returned (.agg #[.int .u8 (P r c 0)]) ∧ w.grownBy w' none := by
  obtain ⟨n, cap, st, D0, D1, D2, D3, D4, D5, bl, px, hn, hst, hcap, hcap2, hne, hw, hh, a1, a2, a3, a4, hB⟩ := H.cells
  have g1 : x0 ≤ x := by omega
  have g2 : x < x0 + wd := by omega
  have g3 : y0 ≤ y := by omega
  have g4 : y < y0 + h := by omega
  have g5 : st ≤ 1024 := by omega
  obtain ⟨q, hq⟩ : ∃ q : Nat, q = r * st + c * 1 := ⟨_, rfl⟩
  have hfit := pix_bound hr hc (show 1 - 1 < 1 by omega)
  rw [hst, ← hn, ← hq] at hfit
  have K0 := px.cell (r := r) (c := c) (ch := 0) (i := q) hr hc (by omega) (by rw [hst, hq]; rfl)
  have bl2 := px.lt
  have g6 : c ≤ 128 := by omega
  have g7 : r ≤ 128 := by omega
  have B0 := hB r c 0
  have Hq := hid hq
  have E1 := hid e1
  have E2 := hid e2
  have Hh := hid (And.intro hn hst)
  have HH := hid H
  clear H hq e1 e2 hn hst px hB
  go_enter Tryz.func161, Tryz.ntmps161
  go_wp2_with fail
  refine (in_c x y x0 y0 (x0 + wd) (y0 + h) _ g1 g2 g3 g4).mono ?_
  rintro e w1 ⟨rfl, hg1⟩
  obtain ⟨c1, f1⟩ := gb_rules hg1
  have z1 : w.heap.size < w1.heap.size := by have := hg1.size; simp at this; omega
  have t1 : b < w1.heap.size := by omega
  have t2 : pb < w1.heap.size := by omega
  go_wp2_with fail
  refine (off_Gray b st r c q x y x0 y0 _ (by go_simp) (by go_simp) (by go_simp) E1.out E2.out g6 g7 g5 Hq.out).mono ?_
  rintro e w2 ⟨rfl, hg2⟩
  obtain ⟨c2, f2⟩ := gb_rules hg2
  have z2 : w.heap.size < w2.heap.size := by have := hg2.size; omega
  have t3 : b < w2.heap.size := by omega
  have t4 : pb < w2.heap.size := by omega
  have hgw : w.grownBy w2 none := gb_trans (gb_trans (gb_alloc (gb_refl _ _) _) hg1) hg2
  go_wp2_with fail
  exact bodyPost_ret (v := .agg #[.int .u8 (P r c 0)]) (by simp [results, Tryz.results161, go_sem, c2, c1, z1]) rfl ⟨rfl, gb_setCell (hgw) (.inr (Nat.le_refl _)) _⟩
end Go.Proofs.YtgjpohmjkhgpfaaGreat

namespace Go.Proofs.YtgjpohmjkhgpfaaGreat
open Go.RowKit

set_option maxRecDepth 100000 in
set_option maxHeartbeats 4000000 in
theorem RGBA64At_NRGBA {b T pb h wd r c : Nat} {x0 y0 x y : Int} {P : Nat → Nat → Nat → Int} (w : World) (H : Pic w b T pb 4 h wd x0 y0 P) (e1 : x - x0 = c) (e2 : y - y0 = r) (hc : c < wd) (hr : r < h) :
    Calls Tryz.prog 139 #[.pointer (some ⟨b, 0, none⟩), .int .i64 x, .int .i64 y] w fun e w' => e = .returned (c64 (cl 1 (P r c))) ∧ w.grownBy w' none := by
  obtain ⟨n, cap, st, -, -, -, -, -, -, bl, px, -, -, -, -, -, -, -, -, -, -, -, hB⟩ := H.cells
  have R0 := cl_range (k := 1) (hB r c) 0
  have R1 := cl_range (k := 1) (hB r c) 1
  have R2 := cl_range (k := 1) (hB r c) 2
  have R3 := cl_range (k := 1) (hB r c) 3
  have hBB := hid (hB r c)
  have bl2 := px.lt
  have E1 := hid e1
  have E2 := hid e2
  have HB := hid H
  clear px hB e1 e2
  go_enter Tryz.func139, Tryz.ntmps139
  go_wp2_with fail
  refine (NRGBAAt_NRGBA _ ((HB.out.kept (gb_weak (gb_alloc (gb_refl _ _) _) (some (w.heap.size + 1))) (by omega) (by omega))) E1.out E2.out hc hr).mono ?_
  rintro e w1 ⟨rfl, hg1⟩
  have z1 : w.heap.size < w1.heap.size := by have := hg1.size; simp at this; omega
  obtain ⟨c1, f1⟩ := gb_rules hg1
  go_wp2_with fail
  refine (nrgba_RGBA_c (P r c) _ hBB.out).mono ?_
  rintro e w2 ⟨rfl, hg2⟩
  have z2 : w.heap.size < w2.heap.size := by have := hg2.size; omega
  obtain ⟨c2, f2⟩ := gb_rules hg2
  have hgw : w.grownBy w2 none := gb_trans (gb_trans (gb_alloc (gb_refl _ _) _) hg1) hg2
  go_wp2_with fail
  exact bodyPost_ret (v := c64 (cl 1 (P r c))) (by simp [results, Tryz.results139, go_sem, c2, c1, z1]) rfl ⟨rfl, gb_setCell (gb_setCell (gb_setCell (gb_setCell (hgw) (.inr (Nat.le_refl _)) _) (.inr (Nat.le_refl _)) _) (.inr (Nat.le_refl _)) _) (.inr (Nat.le_refl _)) _⟩

set_option maxRecDepth 100000 in
set_option maxHeartbeats 4000000 in
theorem RGBA64At_CMYK {b T pb h wd r c : Nat} {x0 y0 x y : Int} {P : Nat → Nat → Nat → Int} (w : World) (H : Pic w b T pb 4 h wd x0 y0 P) (e1 : x - x0 = c) (e2 : y - y0 = r) (hc : c < wd) (hr : r < h) :
    Calls Tryz.prog 178 #[.pointer (some ⟨b, 0, none⟩), .int .i64 x, .int .i64 y] w fun e w' => e = .returned (c64 (cl 5 (P r c))) ∧ w.grownBy w' none := by
  obtain ⟨n, cap, st, -, -, -, -, -, -, bl, px, -, -, -, -, -, -, -, -, -, -, -, hB⟩ := H.cells
  have R0 := cl_range (k := 5) (hB r c) 0
  have R1 := cl_range (k := 5) (hB r c) 1
  have R2 := cl_range (k := 5) (hB r c) 2
  have R3 := cl_range (k := 5) (hB r c) 3
  have hBB := hid (hB r c)
  have bl2 := px.lt
  have E1 := hid e1
  have E2 := hid e2
  have HB := hid H
  clear px hB e1 e2
  go_enter Tryz.func178, Tryz.ntmps178
  go_wp2_with fail
  refine (CMYKAt_CMYK _ ((HB.out.kept (gb_weak (gb_alloc (gb_refl _ _) _) (some (w.heap.size + 1))) (by omega) (by omega))) E1.out E2.out hc hr).mono ?_
  rintro e w1 ⟨rfl, hg1⟩
  have z1 : w.heap.size < w1.heap.size := by have := hg1.size; simp at this; omega
  obtain ⟨c1, f1⟩ := gb_rules hg1
  go_wp2_with fail
  refine (cmyk_RGBA_c (P r c) _ hBB.out).mono ?_
  rintro e w2 ⟨rfl, hg2⟩
  have z2 : w.heap.size < w2.heap.size := by have := hg2.size; omega
  obtain ⟨c2, f2⟩ := gb_rules hg2
  have hgw : w.grownBy w2 none := gb_trans (gb_trans (gb_alloc (gb_refl _ _) _) hg1) hg2
  go_wp2_with fail
  exact bodyPost_ret (v := c64 (cl 5 (P r c))) (by simp [results, Tryz.results178, go_sem, c2, c1, z1]) rfl ⟨rfl, gb_setCell (gb_setCell (gb_setCell (gb_setCell (hgw) (.inr (Nat.le_refl _)) _) (.inr (Nat.le_refl _)) _) (.inr (Nat.le_refl _)) _) (.inr (Nat.le_refl _)) _⟩

set_option maxRecDepth 100000 in
set_option maxHeartbeats 4000000 in
theorem RGBA64At_Alpha {b T pb h wd r c : Nat} {x0 y0 x y : Int} {P : Nat → Nat → Nat → Int} (w : World) (H : Pic w b T pb 1 h wd x0 y0 P) (e1 : x - x0 = c) (e2 : y - y0 = r) (hc : c < wd) (hr : r < h) :
    Calls Tryz.prog 148 #[.pointer (some ⟨b, 0, none⟩), .int .i64 x, .int .i64 y] w fun e w' => e = .returned (c64 (cl 2 (P r c))) ∧ w.grownBy w' none := by
  obtain ⟨n, cap, st, -, -, -, -, -, -, bl, px, -, -, -, -, -, -, -, -, -, -, -, hB⟩ := H.cells
  have R0 := cl_range (k := 2) (hB r c) 0
  have R1 := cl_range (k := 2) (hB r c) 1
  have R2 := cl_range (k := 2) (hB r c) 2
  have R3 := cl_range (k := 2) (hB r c) 3
  have hBB := hid (hB r c)
  have o1 := or257u (hB r c 0)
  have B0 := hB r c 0
  have bl2 := px.lt
  have E1 := hid e1
  have E2 := hid e2
  have HB := hid H
  clear px hB e1 e2
  go_enter Tryz.func148, Tryz.ntmps148
  go_wp2_with fail
  refine (AlphaAt_Alpha _ ((HB.out.kept (gb_weak (gb_alloc (gb_refl _ _) _) (some (w.heap.size + 1))) (by omega) (by omega))) E1.out E2.out hc hr).mono ?_
  rintro e w1 ⟨rfl, hg1⟩
  have z1 : w.heap.size < w1.heap.size := by have := hg1.size; simp at this; omega
  obtain ⟨c1, f1⟩ := gb_rules hg1
  go_wp2_with fail
  have hgw : w.grownBy w1 none := gb_trans (gb_alloc (gb_refl _ _) _) hg1
  exact bodyPost_ret (v := c64 (cl 2 (P r c))) (by simp [results, Tryz.results148, go_sem, c1, z1, cl2]) rfl ⟨rfl, gb_setCell (gb_setCell (gb_setCell (gb_setCell (hgw) (.inr (Nat.le_refl _)) _) (.inr (Nat.le_refl _)) _) (.inr (Nat.le_refl _)) _) (.inr (Nat.le_refl _)) _⟩

set_option maxRecDepth 100000 in
set_option maxHeartbeats 4000000 in
theorem RGBA64At_Gray {b T pb h wd r c : Nat} {x0 y0 x y : Int} {P : Nat → Nat → Nat → Int} (w : World) (H : Pic w b T pb 1 h wd x0 y0 P) (e1 : x - x0 = c) (e2 : y - y0 = r) (hc : c < wd) (hr : r < h) :
    Calls Tryz.prog 158 #[.pointer (some ⟨b, 0, none⟩), .int .i64 x, .int .i64 y] w fun e w' => e = .returned (c64 (cl 3 (P r c))) ∧ w.grownBy w' none := by
  obtain ⟨n, cap, st, -, -, -, -, -, -, bl, px, -, -, -, -, -, -, -, -, -, -, -, hB⟩ := H.cells
  have R0 := cl_range (k := 3) (hB r c) 0
  have R1 := cl_range (k := 3) (hB r c) 1
  have R2 := cl_range (k := 3) (hB r c) 2
  have R3 := cl_range (k := 3) (hB r c) 3
  have hBB := hid (hB r c)
  have o1 := or257u (hB r c 0)
  have B0 := hB r c 0
  have bl2 := px.lt
  have E1 := hid e1
  have E2 := hid e2
  have HB := hid H
  clear px hB e1 e2
  go_enter Tryz.func158, Tryz.ntmps158
  go_wp2_with fail
  refine (GrayAt_Gray _ ((HB.out.kept (gb_weak (gb_alloc (gb_refl _ _) _) (some (w.heap.size + 1))) (by omega) (by omega))) E1.out E2.out hc hr).mono ?_
  rintro e w1 ⟨rfl, hg1⟩
  have z1 : w.heap.size < w1.heap.size := by have := hg1.size; simp at this; omega
  obtain ⟨c1, f1⟩ := gb_rules hg1
  go_wp2_with fail
  have hgw : w.grownBy w1 none := gb_trans (gb_alloc (gb_refl _ _) _) hg1
  exact bodyPost_ret (v := c64 (cl 3 (P r c))) (by simp [results, Tryz.results158, go_sem, c1, z1, cl3]) rfl ⟨rfl, gb_setCell (gb_setCell (gb_setCell (gb_setCell (hgw) (.inr (Nat.le_refl _)) _) (.inr (Nat.le_refl _)) _) (.inr (Nat.le_refl _)) _) (.inr (Nat.le_refl _)) _⟩

set_option maxRecDepth 100000 in
set_option maxHeartbeats 4000000 in
theorem RGBA64At_Uniform (f : Nat → Int) (b : Nat) (x y : Int) (w : World) (hp : ∀ i, 0 ≤ f i ∧ f i ≤ 65535) (hc : w.cell? ⟨b, 0, none⟩ = some (.iface 103 (c64 f))) (hb : b < w.heap.size) :
    Calls Tryz.prog 192 #[.pointer (some ⟨b, 0, none⟩), .int .i64 x, .int .i64 y] w fun e w' => e = .returned (c64 f) ∧ w.grownBy w' none := by
  have h0 := hp 0; have h1 := hp 1; have h2 := hp 2; have h3 := hp 3
  have Hp := hid hp
  clear hp
  go_enter Tryz.func192, Tryz.ntmps192
  go_wp2_with fail
  refine (rgba64_RGBA_c f _ Hp.out).mono ?_
  rintro e w1 ⟨rfl, hg1⟩
  have z1 : w.heap.size < w1.heap.size := by have := hg1.size; simp at this; omega
  obtain ⟨c1, f1⟩ := gb_rules hg1
  go_wp2_with fail
  have hgw : w.grownBy w1 none := gb_trans (gb_alloc (gb_refl _ _) _) hg1
  exact bodyPost_ret (v := c64 f) (by simp [results, Tryz.results192, go_sem, c1, z1]) rfl ⟨rfl, gb_setCell (gb_setCell (gb_setCell (gb_setCell (hgw) (.inr (Nat.le_refl _)) _) (.inr (Nat.le_refl _)) _) (.inr (Nat.le_refl _)) _) (.inr (Nat.le_refl _)) _⟩

set_option maxRecDepth 100000 in
set_option maxHeartbeats 4000000 in
theorem At_Uniform (f : Nat → Int) (b : Nat) (x y : Int) (w : World) (hc : w.cell? ⟨b, 0, none⟩ = some (.iface 103 (c64 f))) :
    Calls Tryz.prog 187 #[.pointer (some ⟨b, 0, none⟩), .int .i64 x, .int .i64 y] w fun e w' => e = .returned (.iface 103 (c64 f)) ∧ w.grownBy w' none := by
  go_enter Tryz.func187, Tryz.ntmps187
  go_wp2
  go_ret
  exact ⟨rfl, gb_refl _ _⟩

set_option maxRecDepth 100000 in
set_option maxHeartbeats 4000000 in
theorem At_RGBA {b T pb h wd r c : Nat} {x0 y0 x y : Int} {P : Nat → Nat → Nat → Int} (w : World) (H : Pic w b T pb 4 h wd x0 y0 P) (e1 : x - x0 = c) (e2 : y - y0 = r) (hc : c < wd) (hr : r < h) :
    Calls Tryz.prog 125 #[.pointer (some ⟨b, 0, none⟩), .int .i64 x, .int .i64 y] w fun e w' => e = .returned (.iface 174 (b4 (P r c))) ∧ w.grownBy w' none := by
  have HB := hid H
  clear H
  have E1 := hid e1
  have E2 := hid e2
  clear e1 e2
  go_enter Tryz.func125, Tryz.ntmps125
  go_wp2_with fail
  refine (RGBAAt_RGBA _ HB.out E1.out E2.out hc hr).mono ?_
  rintro e w1 ⟨rfl, hg1⟩
  go_wp2_with fail
  go_ret
  exact ⟨rfl, hg1⟩

set_option maxRecDepth 100000 in
set_option maxHeartbeats 4000000 in
theorem At_NRGBA {b T pb h wd r c : Nat} {x0 y0 x y : Int} {P : Nat → Nat → Nat → Int} (w : World) (H : Pic w b T pb 4 h wd x0 y0 P) (e1 : x - x0 = c) (e2 : y - y0 = r) (hc : c < wd) (hr : r < h) :
    Calls Tryz.prog 135 #[.pointer (some ⟨b, 0, none⟩), .int .i64 x, .int .i64 y] w fun e w' => e = .returned (.iface 176 (b4 (P r c))) ∧ w.grownBy w' none := by
  have HB := hid H
  clear H
  have E1 := hid e1
  have E2 := hid e2
  clear e1 e2
  go_enter Tryz.func135, Tryz.ntmps135
  go_wp2_with fail
  refine (NRGBAAt_NRGBA _ HB.out E1.out E2.out hc hr).mono ?_
  rintro e w1 ⟨rfl, hg1⟩
  go_wp2_with fail
  go_ret
  exact ⟨rfl, hg1⟩

set_option maxRecDepth 100000 in
set_option maxHeartbeats 4000000 in
theorem At_Alpha {b T pb h wd r c : Nat} {x0 y0 x y : Int} {P : Nat → Nat → Nat → Int} (w : World) (H : Pic w b T pb 1 h wd x0 y0 P) (e1 : x - x0 = c) (e2 : y - y0 = r) (hc : c < wd) (hr : r < h) :
    Calls Tryz.prog 144 #[.pointer (some ⟨b, 0, none⟩), .int .i64 x, .int .i64 y] w fun e w' => e = .returned (.iface 208 (.agg #[.int .u8 (P r c 0)])) ∧ w.grownBy w' none := by
  have HB := hid H
  clear H
  have E1 := hid e1
  have E2 := hid e2
  clear e1 e2
  go_enter Tryz.func144, Tryz.ntmps144
  go_wp2_with fail
  refine (AlphaAt_Alpha _ HB.out E1.out E2.out hc hr).mono ?_
  rintro e w1 ⟨rfl, hg1⟩
  go_wp2_with fail
  go_ret
  exact ⟨rfl, hg1⟩

set_option maxRecDepth 100000 in
set_option maxHeartbeats 4000000 in
theorem At_Gray {b T pb h wd r c : Nat} {x0 y0 x y : Int} {P : Nat → Nat → Nat → Int} (w : World) (H : Pic w b T pb 1 h wd x0 y0 P) (e1 : x - x0 = c) (e2 : y - y0 = r) (hc : c < wd) (hr : r < h) :
    Calls Tryz.prog 154 #[.pointer (some ⟨b, 0, none⟩), .int .i64 x, .int .i64 y] w fun e w' => e = .returned (.iface 212 (.agg #[.int .u8 (P r c 0)])) ∧ w.grownBy w' none := by
  have HB := hid H
  clear H
  have E1 := hid e1
  have E2 := hid e2
  clear e1 e2
  go_enter Tryz.func154, Tryz.ntmps154
  go_wp2_with fail
  refine (GrayAt_Gray _ HB.out E1.out E2.out hc hr).mono ?_
  rintro e w1 ⟨rfl, hg1⟩
  go_wp2_with fail
  go_ret
  exact ⟨rfl, hg1⟩

set_option maxRecDepth 100000 in
set_option maxHeartbeats 4000000 in
theorem At_RGBA64 {b T pb h wd r c : Nat} {x0 y0 x y : Int} {P : Nat → Nat → Nat → Int} (w : World) (H : Pic w b T pb 8 h wd x0 y0 P) (e1 : x - x0 = c) (e2 : y - y0 = r) (hc : c < wd) (hr : r < h) :
    Calls Tryz.prog 164 #[.pointer (some ⟨b, 0, none⟩), .int .i64 x, .int .i64 y] w fun e w' => e = .returned (.iface 103 (c64 (cl 4 (P r c)))) ∧ w.grownBy w' none := by
  have HB := hid H
  clear H
  have E1 := hid e1
  have E2 := hid e2
  clear e1 e2
  go_enter Tryz.func164, Tryz.ntmps164
  go_wp2_with fail
  refine (RGBA64At_RGBA64 _ HB.out E1.out E2.out hc hr).mono ?_
  rintro e w1 ⟨rfl, hg1⟩
  go_wp2_with fail
  go_ret
  exact ⟨rfl, hg1⟩

set_option maxRecDepth 100000 in
set_option maxHeartbeats 4000000 in
theorem At_CMYK {b T pb h wd r c : Nat} {x0 y0 x y : Int} {P : Nat → Nat → Nat → Int} (w : World) (H : Pic w b T pb 4 h wd x0 y0 P) (e1 : x - x0 = c) (e2 : y - y0 = r) (hc : c < wd) (hr : r < h) :
    Calls Tryz.prog 174 #[.pointer (some ⟨b, 0, none⟩), .int .i64 x, .int .i64 y] w fun e w' => e = .returned (.iface 217 (b4 (P r c))) ∧ w.grownBy w' none := by
  have HB := hid H
  clear H
  have E1 := hid e1
  have E2 := hid e2
  clear e1 e2
  go_enter Tryz.func174, Tryz.ntmps174
  go_wp2_with fail
  refine (CMYKAt_CMYK _ HB.out E1.out E2.out hc hr).mono ?_
  rintro e w1 ⟨rfl, hg1⟩
  go_wp2_with fail
  go_ret
  exact ⟨rfl, hg1⟩
end Go.Proofs.YtgjpohmjkhgpfaaGreat

namespace Go.Proofs.YtgjpohmjkhgpfaaGreat
open Go.RowKit

/-- f is a function of the program's text -/
def Fn (f : FuncId) : Prop := ∀ (args : Array Value) (w' : World), (callFunc f args).run Tryz.prog w' = .ok (.enter f args) w'
/-- block b is an image of kind k (6: one color), its type t; its pixels lie in block pb -/
inductive Src (w : World) (b pb h wd : Nat) (x0 y0 : Int) (S : Nat → Nat → Nat → Int) : Nat → TypeId → Prop
  | k0 : Pic w b 87 pb 4 h wd x0 y0 S → Src w b pb h wd x0 y0 S 0 85
  | k1 : Pic w b 89 pb 4 h wd x0 y0 S → Src w b pb h wd x0 y0 S 1 88
  | k2 : Pic w b 91 pb 1 h wd x0 y0 S → Src w b pb h wd x0 y0 S 2 90
  | k3 : Pic w b 93 pb 1 h wd x0 y0 S → Src w b pb h wd x0 y0 S 3 92
  | k4 : Pic w b 95 pb 8 h wd x0 y0 S → Src w b pb h wd x0 y0 S 4 94
  | k5 : Pic w b 97 pb 4 h wd x0 y0 S → Src w b pb h wd x0 y0 S 5 96
  | k6 (s : Nat → Int) : By s → S = (fun _ _ => s) → w.cell? ⟨b, 0, none⟩ = some (.iface 103 (c64 (cl 6 s))) → b < w.heap.size → pb = b → x0 = -1000000000 → y0 = -1000000000 → h = 2000000000 → wd = 2000000000 → Src w b pb h wd x0 y0 S 6 100

section
variable {w : World} {b pb h wd k : Nat} {x0 y0 : Int} {S : Nat → Nat → Nat → Int} {t : TypeId}

theorem Src.by (H : Src w b pb h wd x0 y0 S k t) : ∀ r c, By (S r c) := by
  cases H
  case k6 s hb hs hc hl e1 e2 e3 e4 e5 => subst hs; exact fun _ _ => hb
  all_goals (rename_i H; obtain ⟨-, -, -, -, -, -, -, -, -, -, -, -, -, -, -, -, -, -, -, -, -, -, hB⟩ := H.cells; exact hB)
theorem Src.lt (H : Src w b pb h wd x0 y0 S k t) : b < w.heap.size := by
  cases H
  case k6 s hb hs hc hl e1 e2 e3 e4 e5 => exact hl
  all_goals (rename_i H; obtain ⟨-, -, -, -, -, -, -, -, -, hl, -⟩ := H.cells; exact hl)
theorem Src.kept (H : Src w b pb h wd x0 y0 S k t) {w' : World} {pd : Nat} (hg : w.grownBy w' (some pd)) (h1 : b ≠ pd) (h2 : pb ≠ pd) : Src w' b pb h wd x0 y0 S k t := by
  cases H
  case k6 s hb hs hc hl e1 e2 e3 e4 e5 => exact .k6 s hb hs ((gb_cell hg hl h1).trans hc) (Nat.lt_of_lt_of_le hl hg.size) e1 e2 e3 e4 e5
  case k0 H => exact .k0 (H.kept hg h1 h2)
  case k1 H => exact .k1 (H.kept hg h1 h2)
  case k2 H => exact .k2 (H.kept hg h1 h2)
  case k3 H => exact .k3 (H.kept hg h1 h2)
  case k4 H => exact .k4 (H.kept hg h1 h2)
  case k5 H => exact .k5 (H.kept hg h1 h2)
theorem Pic.kept0 {T : TypeId} (H : Pic w b T pb k h wd x0 y0 S) {w' : World} (hg : w.grownBy w' none) : Pic w' b T pb k h wd x0 y0 S := by
  obtain ⟨n, cap, st, hb, hp, rest⟩ := H
  exact ⟨n, cap, st, (gb_block0 hg (lt_of_block hb)).trans hb, hp.kept (gb_block0 hg hp.lt), rest⟩
theorem Src.kept0 (H : Src w b pb h wd x0 y0 S k t) {w' : World} (hg : w.grownBy w' none) : Src w' b pb h wd x0 y0 S k t := by
  cases H
  case k6 s hb hs hc hl e1 e2 e3 e4 e5 => exact .k6 s hb hs ((gb_cell0 hg hl).trans hc) (Nat.lt_of_lt_of_le hl hg.size) e1 e2 e3 e4 e5
  case k0 H => exact .k0 (H.kept0 hg)
  case k1 H => exact .k1 (H.kept0 hg)
  case k2 H => exact .k2 (H.kept0 hg)
  case k3 H => exact .k3 (H.kept0 hg)
  case k4 H => exact .k4 (H.kept0 hg)
  case k5 H => exact .k5 (H.kept0 hg)

/-- the method's function, whatever the world -/
theorem Src.m64 (H : Src w b pb h wd x0 y0 S k t) : ∃ f, Fn f ∧ (∀ w', (method 326 t (.pointer (some ⟨b, 0, none⟩)) "RGBA64At").run Tryz.prog w' = .ok (f, .pointer (some ⟨b, 0, none⟩)) w') ∧
    ∀ (w' : World) (x y : Int) (r c : Nat), Src w' b pb h wd x0 y0 S k t → x - x0 = c → y - y0 = r → c < wd → r < h →
      Calls Tryz.prog f #[.pointer (some ⟨b, 0, none⟩), .int .i64 x, .int .i64 y] w' fun e w'' => e = .returned (c64 (cl k (S r c))) ∧ w'.grownBy w'' none := by
  cases H
  case k6 s hb hs hc hl e1 e2 e3 e4 e5 =>
    refine ⟨192, fun _ _ => by kernel_rfl, fun w' => m_Uniform_RGBA64At _ w', fun w' x y r c H' _ _ _ _ => ?_⟩
    cases H'
    case k6 s' hb' hs' hc' hl' _ _ _ _ _ =>
      rw [hs']; exact RGBA64At_Uniform (cl 6 s') b x y w' (fun i => cl_range hb' i) hc' hl'
  case k0 H =>
    refine ⟨129, fun _ _ => by kernel_rfl, fun w' => m_RGBA_RGBA64At _ w', fun w' x y r c H' g1 g2 g3 g4 => ?_⟩
    cases H'
    case k0 H' => exact RGBA64At_RGBA w' H' g1 g2 g3 g4
  case k1 H =>
    refine ⟨139, fun _ _ => by kernel_rfl, fun w' => m_NRGBA_RGBA64At _ w', fun w' x y r c H' g1 g2 g3 g4 => ?_⟩
    cases H'
    case k1 H' => exact RGBA64At_NRGBA w' H' g1 g2 g3 g4
  case k2 H =>
    refine ⟨148, fun _ _ => by kernel_rfl, fun w' => m_Alpha_RGBA64At _ w', fun w' x y r c H' g1 g2 g3 g4 => ?_⟩
    cases H'
    case k2 H' => exact RGBA64At_Alpha w' H' g1 g2 g3 g4
  case k3 H =>
    refine ⟨158, fun _ _ => by kernel_rfl, fun w' => m_Gray_RGBA64At _ w', fun w' x y r c H' g1 g2 g3 g4 => ?_⟩
    cases H'
    case k3 H' => exact RGBA64At_Gray w' H' g1 g2 g3 g4
  case k4 H =>
    refine ⟨168, fun _ _ => by kernel_rfl, fun w' => m_RGBA64_RGBA64At _ w', fun w' x y r c H' g1 g2 g3 g4 => ?_⟩
    cases H'
    case k4 H' => exact RGBA64At_RGBA64 w' H' g1 g2 g3 g4
  case k5 H =>
    refine ⟨178, fun _ _ => by kernel_rfl, fun w' => m_CMYK_RGBA64At _ w', fun w' x y r c H' g1 g2 g3 g4 => ?_⟩
    cases H'
    case k5 H' => exact RGBA64At_CMYK w' H' g1 g2 g3 g4

theorem Src.mb (H : Src w b pb h wd x0 y0 S k t) : ∃ f, Fn f ∧ (∀ w', (method 326 t (.pointer (some ⟨b, 0, none⟩)) "Bounds").run Tryz.prog w' = .ok (f, .pointer (some ⟨b, 0, none⟩)) w') ∧
    ∀ (w' : World), Src w' b pb h wd x0 y0 S k t →
      Calls Tryz.prog f #[.pointer (some ⟨b, 0, none⟩)] w' fun e w'' => e = .returned (vR x0 y0 (x0 + wd) (y0 + h)) ∧ w'.grownBy w'' none := by
  cases H
  case k6 s hb hs hc hl e1 e2 e3 e4 e5 =>
    refine ⟨188, fun _ _ => by kernel_rfl, fun w' => m_Uniform_Bounds _ w', fun w' _ => ?_⟩
    subst e2 e3 e4 e5
    exact bounds_Uniform _ w'
  case k0 H =>
    refine ⟨126, fun _ _ => by kernel_rfl, fun w' => m_RGBA_Bounds _ w', fun w' H' => ?_⟩
    cases H'
    case k0 H' => exact bounds_RGBA w' H'
  case k1 H =>
    refine ⟨136, fun _ _ => by kernel_rfl, fun w' => m_NRGBA_Bounds _ w', fun w' H' => ?_⟩
    cases H'
    case k1 H' => exact bounds_NRGBA w' H'
  case k2 H =>
    refine ⟨145, fun _ _ => by kernel_rfl, fun w' => m_Alpha_Bounds _ w', fun w' H' => ?_⟩
    cases H'
    case k2 H' => exact bounds_Alpha w' H'
  case k3 H =>
    refine ⟨155, fun _ _ => by kernel_rfl, fun w' => m_Gray_Bounds _ w', fun w' H' => ?_⟩
    cases H'
    case k3 H' => exact bounds_Gray w' H'
  case k4 H =>
    refine ⟨165, fun _ _ => by kernel_rfl, fun w' => m_RGBA64_Bounds _ w', fun w' H' => ?_⟩
    cases H'
    case k4 H' => exact bounds_RGBA64 w' H'
  case k5 H =>
    refine ⟨175, fun _ _ => by kernel_rfl, fun w' => m_CMYK_Bounds _ w', fun w' H' => ?_⟩
    cases H'
    case k5 H' => exact bounds_CMYK w' H'

/-- a color's value, and its RGBA method -/
def Col (v : Nat → Int) (tc : TypeId) (cv : Value) : Prop :=
  ∃ g, Fn g ∧ (∀ w', (method 326 tc cv "RGBA").run Tryz.prog w' = .ok (g, cv) w') ∧ ∀ w' : World, Calls Tryz.prog g #[cv] w' fun e w'' => e = .returned (v4 v) ∧ w'.grownBy w'' none
theorem Src.mat (H : Src w b pb h wd x0 y0 S k t) : ∃ f, Fn f ∧ (∀ w', (method 326 t (.pointer (some ⟨b, 0, none⟩)) "At").run Tryz.prog w' = .ok (f, .pointer (some ⟨b, 0, none⟩)) w') ∧
    ∀ (w' : World) (x y : Int) (r c : Nat), Src w' b pb h wd x0 y0 S k t → x - x0 = c → y - y0 = r → c < wd → r < h →
      Calls Tryz.prog f #[.pointer (some ⟨b, 0, none⟩), .int .i64 x, .int .i64 y] w' fun e w'' => (∃ tc cv, e = .returned (.iface tc cv) ∧ Col (cl k (S r c)) tc cv) ∧ w'.grownBy w'' none := by
  have HB := H.by
  cases H
  case k6 s hb hs hc hl e1 e2 e3 e4 e5 =>
    refine ⟨187, fun _ _ => by kernel_rfl, fun w' => m_Uniform_At _ w', fun w' x y r c H' _ _ _ _ => ?_⟩
    cases H'
    case k6 s' hb' hs' hc' hl' _ _ _ _ _ =>
      refine (At_Uniform (cl 6 s') b x y w' hc').mono ?_
      rintro e w2 ⟨rfl, hg⟩
      rw [hs']
      exact ⟨⟨_, _, rfl, 193, fun _ _ => by kernel_rfl, fun w' => m_cRGBA64 _ _ _ _ w', fun w' => (rgba64_RGBA_c (cl 6 s') w' (fun i => cl_range hb' i)).mono (by rintro e w3 ⟨rfl, hg⟩; exact ⟨rfl, hg⟩)⟩, hg⟩
  case k0 H =>
    refine ⟨125, fun _ _ => by kernel_rfl, fun w' => m_RGBA_At _ w', fun w' x y r c H' g1 g2 g3 g4 => ?_⟩
    cases H'
    case k0 H' =>
      refine (At_RGBA w' H' g1 g2 g3 g4).mono ?_
      rintro e w2 ⟨rfl, hg⟩
      exact ⟨⟨_, _, rfl, 86, fun _ _ => by kernel_rfl, fun w' => m_cRGBA _ _ _ _ w', fun w' => (rgba_RGBA_c (S r c) w' (HB r c)).mono (by rintro e w3 ⟨rfl, hg⟩; exact ⟨rfl, hg⟩)⟩, hg⟩
  case k1 H =>
    refine ⟨135, fun _ _ => by kernel_rfl, fun w' => m_NRGBA_At _ w', fun w' x y r c H' g1 g2 g3 g4 => ?_⟩
    cases H'
    case k1 H' =>
      refine (At_NRGBA w' H' g1 g2 g3 g4).mono ?_
      rintro e w2 ⟨rfl, hg⟩
      exact ⟨⟨_, _, rfl, 89, fun _ _ => by kernel_rfl, fun w' => m_cNRGBA _ _ _ _ w', fun w' => (nrgba_RGBA_c (S r c) w' (HB r c)).mono (by rintro e w3 ⟨rfl, hg⟩; exact ⟨rfl, hg⟩)⟩, hg⟩
  case k2 H =>
    refine ⟨144, fun _ _ => by kernel_rfl, fun w' => m_Alpha_At _ w', fun w' x y r c H' g1 g2 g3 g4 => ?_⟩
    cases H'
    case k2 H' =>
      refine (At_Alpha w' H' g1 g2 g3 g4).mono ?_
      rintro e w2 ⟨rfl, hg⟩
      exact ⟨⟨_, _, rfl, 222, fun _ _ => by kernel_rfl, fun w' => m_cAlpha _ w', fun w' => (alpha_RGBA_c (S r c) w' (HB r c)).mono (by rintro e w3 ⟨rfl, hg⟩; exact ⟨rfl, hg⟩)⟩, hg⟩
  case k3 H =>
    refine ⟨154, fun _ _ => by kernel_rfl, fun w' => m_Gray_At _ w', fun w' x y r c H' g1 g2 g3 g4 => ?_⟩
    cases H'
    case k3 H' =>
      refine (At_Gray w' H' g1 g2 g3 g4).mono ?_
      rintro e w2 ⟨rfl, hg⟩
      exact ⟨⟨_, _, rfl, 223, fun _ _ => by kernel_rfl, fun w' => m_cGray _ w', fun w' => (gray_RGBA_c (S r c) w' (HB r c)).mono (by rintro e w3 ⟨rfl, hg⟩; exact ⟨rfl, hg⟩)⟩, hg⟩
  case k4 H =>
    refine ⟨164, fun _ _ => by kernel_rfl, fun w' => m_RGBA64_At _ w', fun w' x y r c H' g1 g2 g3 g4 => ?_⟩
    cases H'
    case k4 H' =>
      refine (At_RGBA64 w' H' g1 g2 g3 g4).mono ?_
      rintro e w2 ⟨rfl, hg⟩
      exact ⟨⟨_, _, rfl, 193, fun _ _ => by kernel_rfl, fun w' => m_cRGBA64 _ _ _ _ w', fun w' => (rgba64_RGBA_c (cl 4 (S r c)) w' (fun i => cl_range (HB r c) i)).mono (by rintro e w3 ⟨rfl, hg⟩; exact ⟨rfl, hg⟩)⟩, hg⟩
  case k5 H =>
    refine ⟨174, fun _ _ => by kernel_rfl, fun w' => m_CMYK_At _ w', fun w' x y r c H' g1 g2 g3 g4 => ?_⟩
    cases H'
    case k5 H' =>
      refine (At_CMYK w' H' g1 g2 g3 g4).mono ?_
      rintro e w2 ⟨rfl, hg⟩
      exact ⟨⟨_, _, rfl, 182, fun _ _ => by kernel_rfl, fun w' => m_cCMYK _ _ _ _ w', fun w' => (cmyk_RGBA_c (S r c) w' (HB r c)).mono (by rintro e w3 ⟨rfl, hg⟩; exact ⟨rfl, hg⟩)⟩, hg⟩
end
end Go.Proofs.YtgjpohmjkhgpfaaGreat

namespace Go.Proofs.YtgjpohmjkhgpfaaGreat
open Go.RowKit

/-- the slice at A holds n bytes: byte i is p i -/
def Rd (w : World) (A : Option Addr) (n : Nat) (p : Nat → Int) : Prop :=
  0 < n → ∃ a : Addr, A = some a ∧ a.block < w.heap.size ∧ ∀ i, i < n → w.cell? (a.add i) = some (.int .u8 (p i))
/-- the bytes as values -/
def bys (n : Nat) (p : Nat → Int) : List Value := (List.range n).map fun i => Value.int .u8 (p i)
theorem bys_len (n : Nat) (p : Nat → Int) : (bys n p).length = n := by simp [bys]
theorem bys_at {n i : Nat} (p : Nat → Int) (h : i < n) : (bys n p)[i]? = some (.int .u8 (p i)) := by simp [bys, h]
theorem bys_one {n : Nat} {p : Nat → Int} : ∀ u ∈ bys n p, u.oneCell' = true := by
  intro u hu
  obtain ⟨i, _, rfl⟩ := List.mem_map.1 hu
  rfl
theorem add_block (a : Addr) (i : Nat) : (a.add i).block = a.block := by unfold Addr.add; split <;> rfl

section
variable {w w' : World} {A : Option Addr} {n : Nat} {p : Nat → Int}
theorem Rd.kept0 (h : Rd w A n p) (hg : w.grownBy w' none) : Rd w' A n p := by
  intro hn
  obtain ⟨a, e, hb, hc⟩ := h hn
  exact ⟨a, e, Nat.lt_of_lt_of_le hb hg.size, fun i hi => (gb_cell0 hg (p := a.add i) (by rw [add_block]; exact hb)).trans (hc i hi)⟩
theorem Rd.kept (h : Rd w A n p) {g : Nat} (hg : w.grownBy w' (some g)) (hne : ∀ a, A = some a → a.block ≠ g) : Rd w' A n p := by
  intro hn
  obtain ⟨a, e, hb, hc⟩ := h hn
  exact ⟨a, e, Nat.lt_of_lt_of_le hb hg.size, fun i hi => (gb_cell hg (p := a.add i) (by rw [add_block]; exact hb) (by rw [add_block]; exact hne a e)).trans (hc i hi)⟩
theorem Rd.nil (w : World) (p : Nat → Int) (A : Option Addr) : Rd w A 0 p := fun h => absurd h (by omega)
theorem Rd.congr (h : Rd w A n p) {q : Nat → Int} (e : ∀ i, i < n → p i = q i) : Rd w A n q := by
  intro hn
  obtain ⟨a, e', hb, hc⟩ := h hn
  exact ⟨a, e', hb, fun i hi => by rw [hc i hi, e i hi]⟩
end

/-- a row of bytes of its own: block g (of B or above) holds n bytes from its start on; nil, if there are none -/
def Own (w : World) (B n : Nat) (p : Nat → Int) (A : Option Addr) (c : Nat) : Prop :=
  (n = 0 ∧ A = none ∧ c = 0) ∨ (∃ g C, A = some ⟨g, 0, none⟩ ∧ B ≤ g ∧ w.heap[g]? = some (.cells C 5 (0, 0)) ∧ n ≤ c ∧ c ≤ 9223372036854775807 ∧ ∀ i, i < n → C[i]? = some (.int .u8 (p i)))
section
variable {w w' : World} {A : Option Addr} {B n c : Nat} {p : Nat → Int}
theorem Own.rd (h : Own w B n p A c) : Rd w A n p := by
  intro hn
  rcases h with ⟨h0, _⟩ | ⟨g, C, rfl, hB, hg, _, _, hC⟩
  · omega
  · refine ⟨_, rfl, lt_of_block hg, fun i hi => ?_⟩
    have : (⟨g, 0, none⟩ : Addr).add i = ⟨g, i, none⟩ := by unfold Addr.add; split <;> simp_all
    rw [this]
    exact cell_at hg (hC i hi)
theorem Own.kept0 (h : Own w B n p A c) (hg : w.grownBy w' none) : Own w' B n p A c := by
  rcases h with h | ⟨g, C, e, hB, hb, r⟩
  · exact .inl h
  · exact .inr ⟨g, C, e, hB, (gb_block0 hg (lt_of_block hb)).trans hb, r⟩
theorem Own.kept (h : Own w B n p A c) {d : Nat} (hg : w.grownBy w' (some d)) (hne : ∀ a, A = some a → a.block ≠ d) : Own w' B n p A c := by
  rcases h with h | ⟨g, C, rfl, hB, hb, r⟩
  · exact .inl h
  · exact .inr ⟨g, C, rfl, hB, (gb_block hg (lt_of_block hb) (hne _ rfl)).trans hb, r⟩
theorem Own.low (h : Own w B n p A c) {B' : Nat} (hB : B' ≤ B) : Own w B' n p A c := by
  rcases h with h | ⟨g, C, e, hb, r⟩
  · exact .inl h
  · exact .inr ⟨g, C, e, Nat.le_trans hB hb, r⟩
theorem Own.lt (h : Own w B n p A c) : ∀ a, A = some a → a.block < w.heap.size ∧ B ≤ a.block := by
  intro a ha
  rcases h with ⟨_, e, _⟩ | ⟨g, C, e, hB, hb, r⟩
  · rw [e] at ha; cases ha
  · rw [e] at ha; injection ha with ha; subst ha; exact ⟨lt_of_block hb, hB⟩
theorem Own.set (h : Own w B n p A c) {q : Addr} (hq : q.block < B) (v : Value) : Own (w.setCell q v) B n p A c := by
  rcases h with h | ⟨g, C, e, hB, hb, r⟩
  · exact .inl h
  · exact .inr ⟨g, C, e, hB, (Below.heap_setCell w q v g (by omega)).trans hb, r⟩
theorem Own.le (h : Own w B n p A c) : n ≤ c ∧ c ≤ 9223372036854775807 := by
  rcases h with ⟨rfl, rfl, rfl⟩ | ⟨g, C, e, hb, _, h1, h2, _⟩
  · exact ⟨Nat.le_refl _, by omega⟩
  · exact ⟨h1, h2⟩
end

theorem info_u8 : (Tryz.prog.info? 5).map (fun i => (i.zero, i.size, i.bytes)) = some (some (.int .u8 0), 1, 1) := by kernel_rfl
set_option maxRecDepth 100000 in
/-- append onto nil copies -/
theorem run_copy (w : World) (A : Option Addr) (n c : Nat) (p : Nat → Int) (h : Rd w A n p) (hn : n ≤ 2147483648) :
    ∃ A' c' w', (Builtin.append_ #[22, 22] 22 #[.slice none 0 0, .slice A n c]).run Tryz.prog w = .ok (.slice A' n c') w' ∧ Own w' w.heap.size n p A' c' ∧ w.grownBy w' none := by
  obtain ⟨i0, hi, hz0, hz1, hz2⟩ := info_parts info_u8
  have hu : Tryz.prog.underlying 22 = some (.slice 5) := Tryz.underlying22
  rcases A with _ | a
  · have h0 : n = 0 := by
      rcases Nat.eq_zero_or_pos n with h0 | h0
      · exact h0
      · obtain ⟨_, e, _⟩ := h h0; cases e
    subst h0
    refine ⟨none, 0, w, ?_, .inl ⟨rfl, rfl, rfl⟩, gb_refl _ _⟩
    simp [Builtin.append_, run_underlying hu, sizeOf, typeInfo, hi, Builtin.lenOf, Builtin.firstCells]
  · have hc : ∀ i, i < n → w.cell? (a.add i) = some (.int .u8 (p i)) := by
      intro i hi'
      have hpos : 0 < n := Nat.lt_of_le_of_lt (Nat.zero_le i) hi'
      obtain ⟨a', e, _, hc⟩ := h hpos
      injection e with e; subst e; exact hc i hi'
    have hsz : (bys n p).length = n * 1 := by rw [bys_len, Nat.mul_one]
    have hat : ∀ j u, (bys n p)[j]? = some u → w.cell? (a.add j) = some u := fun j u hj => by
      have hj' : j < n := by
        rcases Nat.lt_or_ge j n with h | h
        · exact h
        · rw [List.getElem?_eq_none (by rw [bys_len]; exact h)] at hj; cases hj
      rw [bys_at p hj'] at hj; injection hj with hj; subst hj; exact hc j hj'
    have b1 : 0 + n ≤ maxLen := by simp only [maxLen]; omega
    have b2 : (0 + n) * 1 ≤ 140737488355328 := by omega
    obtain ⟨v', w', hrun, hown, hg, hnil, _⟩ := run_append_own_at (P := Tryz.prog) w w.heap.size 22 22 5 i0 (.int .u8 0) 1 1 hu hi hz0 hz1 hz2 rfl Nat.one_pos
      (.slice none 0 0) 0 [] (World.ownsRow_nil _ _ _ _) a n c (bys n p) hsz hat bys_one b1 b2 (Nat.le_refl _)
    rw [List.nil_append] at hown
    generalize hm : 0 + n = m at hown
    rw [Nat.zero_add] at hm
    subst hm
    rcases hown.2 with ⟨rfl, h0⟩ | ⟨g, cap, cur, rfl, hB, hgg, hnc, hcm, hsz, htk⟩
    · subst h0
      exact ⟨none, 0, w', hrun, .inl ⟨rfl, rfl, rfl⟩, hg⟩
    · refine ⟨_, cap, w', hrun, .inr ⟨g, cur, rfl, hB, hgg, hnc, by simp only [maxLen] at hcm; omega, fun i hi' => ?_⟩, hg⟩
      have : (cur.toList.take (n * 1))[i]? = some (.int .u8 (p i)) := by rw [htk]; exact bys_at p hi'
      rw [List.getElem?_take, if_pos (by omega)] at this
      simpa using this

theorem wpList_copy {ops : Array Oper} {rest : List Oper} {o : Oper} {a : Act} {w : World} {Q : Exit → Act → World → Prop} (hgd : o.guard = none) (s x : Operand)
    (ho : o.op = .call { callee := .builtin .append, args := #[s, x], argTypes := #[22, 22] }) (hty : o.type = 22) (hs : a.eval s = .slice none 0 0)
    (A : Option Addr) (n c : Nat) (p : Nat → Int) (hx : a.eval x = .slice A n c) (h : Rd w A n p) (hn : n ≤ 2147483648)
    (hK : ∀ A' c' w', Own w' w.heap.size n p A' c' → w.grownBy w' none → wpList Tryz.prog ops Q rest (a.put o.dst (.slice A' n c')) w') : wpList Tryz.prog ops Q (o :: rest) a w := by
  obtain ⟨A', c', w', hrun, h1, h2⟩ := run_copy w A n c p h hn
  refine wpList_plain hgd fun _ hk => ?_
  unfold Oper.wp execOp
  rw [ho]
  simp only [hty, resolve, invoke, builtin, Sem.run_bind, Sem.run_pure, Result.andThen_ok, List.map_toArray, List.map_cons, List.map_nil, hs, hx, hrun]
  exact hk _ _ (hK A' c' w' h1 h2)
end Go.Proofs.YtgjpohmjkhgpfaaGreat
