/- Images: the color of a pixel as 16 bits a color (RGBA64At), and as a color (At). The pixel lies in the image. -/
import Derived.Test.YtgjpohmjkhgpfaaGreatW5
set_option linter.unusedSimpArgs false
set_option linter.unusedVariables false
namespace Go.Proofs.YtgjpohmjkhgpfaaGreat
open Go.RowKit

set_option maxRecDepth 100000 in
set_option maxHeartbeats 4000000 in
theorem RGBA64At_NRGBA {b T pb h wd r c : Nat} {x0 y0 x y : Int} {P : Nat → Nat → Nat → Int} (w : World) (H : Pic w b T pb 4 h wd x0 y0 P) (e1 : x - x0 = c) (e2 : y - y0 = r) (hc : c < wd) (hr : r < h) :
    Calls Tryz.prog 139 #[.pointer (some ⟨b, 0, none⟩), .int .i64 x, .int .i64 y] w fun e w' => e = .returned (c64 (cl 1 (P r c))) ∧ w.grownBy w' none := by
  obtain ⟨n, cap, st, -, -, -, -, -, -, bl, px, -, -, -, -, -, -, -, -, -, -, -, hB⟩ := H.cells
  have R0 := cl_range (k := 1) (hB r c) 0
  have R1 := cl_range (k := 1) (hB r c) 1
  have R2 := cl_range (k := 1) (hB r c) 2
  have R3 := cl_range (k := 1) (hB r c) 3
  have hBB := hid (hB r c)
  have bl2 := px.lt
  have E1 := hid e1
  have E2 := hid e2
  have HB := hid H
  clear px hB e1 e2
  go_enter Tryz.func139, Tryz.ntmps139
  go_wp2_with fail
  refine (NRGBAAt_NRGBA _ ((HB.out.kept (gb_weak (gb_alloc (gb_refl _ _) _) (some (w.heap.size + 1))) (by omega) (by omega))) E1.out E2.out hc hr).mono ?_
  rintro e w1 ⟨rfl, hg1⟩
  have z1 : w.heap.size < w1.heap.size := by have := hg1.size; simp at this; omega
  obtain ⟨c1, f1⟩ := gb_rules hg1
  go_wp2_with fail
  refine (nrgba_RGBA_c (P r c) _ hBB.out).mono ?_
  rintro e w2 ⟨rfl, hg2⟩
  have z2 : w.heap.size < w2.heap.size := by have := hg2.size; omega
  obtain ⟨c2, f2⟩ := gb_rules hg2
  have hgw : w.grownBy w2 none := gb_trans (gb_trans (gb_alloc (gb_refl _ _) _) hg1) hg2
  go_wp2_with fail
  exact bodyPost_ret (v := c64 (cl 1 (P r c))) (by simp [results, Tryz.results139, go_sem, c2, c1, z1]) rfl ⟨rfl, gb_setCell (gb_setCell (gb_setCell (gb_setCell (hgw) (.inr (Nat.le_refl _)) _) (.inr (Nat.le_refl _)) _) (.inr (Nat.le_refl _)) _) (.inr (Nat.le_refl _)) _⟩

set_option maxRecDepth 100000 in
set_option maxHeartbeats 4000000 in
theorem RGBA64At_CMYK {b T pb h wd r c : Nat} {x0 y0 x y : Int} {P : Nat → Nat → Nat → Int} (w : World) (H : Pic w b T pb 4 h wd x0 y0 P) (e1 : x - x0 = c) (e2 : y - y0 = r) (hc : c < wd) (hr : r < h) :
    Calls Tryz.prog 178 #[.pointer (some ⟨b, 0, none⟩), .int .i64 x, .int .i64 y] w fun e w' => e = .returned (c64 (cl 5 (P r c))) ∧ w.grownBy w' none := by
  obtain ⟨n, cap, st, -, -, -, -, -, -, bl, px, -, -, -, -, -, -, -, -, -, -, -, hB⟩ := H.cells
  have R0 := cl_range (k := 5) (hB r c) 0
  have R1 := cl_range (k := 5) (hB r c) 1
  have R2 := cl_range (k := 5) (hB r c) 2
  have R3 := cl_range (k := 5) (hB r c) 3
  have hBB := hid (hB r c)
  have bl2 := px.lt
  have E1 := hid e1
  have E2 := hid e2
  have HB := hid H
  clear px hB e1 e2
  go_enter Tryz.func178, Tryz.ntmps178
  go_wp2_with fail
  refine (CMYKAt_CMYK _ ((HB.out.kept (gb_weak (gb_alloc (gb_refl _ _) _) (some (w.heap.size + 1))) (by omega) (by omega))) E1.out E2.out hc hr).mono ?_
  rintro e w1 ⟨rfl, hg1⟩
  have z1 : w.heap.size < w1.heap.size := by have := hg1.size; simp at this; omega
  obtain ⟨c1, f1⟩ := gb_rules hg1
  go_wp2_with fail
  refine (cmyk_RGBA_c (P r c) _ hBB.out).mono ?_
  rintro e w2 ⟨rfl, hg2⟩
  have z2 : w.heap.size < w2.heap.size := by have := hg2.size; omega
  obtain ⟨c2, f2⟩ := gb_rules hg2
  have hgw : w.grownBy w2 none := gb_trans (gb_trans (gb_alloc (gb_refl _ _) _) hg1) hg2
  go_wp2_with fail
  exact bodyPost_ret (v := c64 (cl 5 (P r c))) (by simp [results, Tryz.results178, go_sem, c2, c1, z1]) rfl ⟨rfl, gb_setCell (gb_setCell (gb_setCell (gb_setCell (hgw) (.inr (Nat.le_refl _)) _) (.inr (Nat.le_refl _)) _) (.inr (Nat.le_refl _)) _) (.inr (Nat.le_refl _)) _⟩

set_option maxRecDepth 100000 in
set_option maxHeartbeats 4000000 in
theorem RGBA64At_Alpha {b T pb h wd r c : Nat} {x0 y0 x y : Int} {P : Nat → Nat → Nat → Int} (w : World) (H : Pic w b T pb 1 h wd x0 y0 P) (e1 : x - x0 = c) (e2 : y - y0 = r) (hc : c < wd) (hr : r < h) :
    Calls Tryz.prog 148 #[.pointer (some ⟨b, 0, none⟩), .int .i64 x, .int .i64 y] w fun e w' => e = .returned (c64 (cl 2 (P r c))) ∧ w.grownBy w' none := by
  obtain ⟨n, cap, st, -, -, -, -, -, -, bl, px, -, -, -, -, -, -, -, -, -, -, -, hB⟩ := H.cells
  have R0 := cl_range (k := 2) (hB r c) 0
  have R1 := cl_range (k := 2) (hB r c) 1
  have R2 := cl_range (k := 2) (hB r c) 2
  have R3 := cl_range (k := 2) (hB r c) 3
  have hBB := hid (hB r c)
  have o1 := or257u (hB r c 0)
  have B0 := hB r c 0
  have bl2 := px.lt
  have E1 := hid e1
  have E2 := hid e2
  have HB := hid H
  clear px hB e1 e2
  go_enter Tryz.func148, Tryz.ntmps148
  go_wp2_with fail
  refine (AlphaAt_Alpha _ ((HB.out.kept (gb_weak (gb_alloc (gb_refl _ _) _) (some (w.heap.size + 1))) (by omega) (by omega))) E1.out E2.out hc hr).mono ?_
  rintro e w1 ⟨rfl, hg1⟩
  have z1 : w.heap.size < w1.heap.size := by have := hg1.size; simp at this; omega
  obtain ⟨c1, f1⟩ := gb_rules hg1
  go_wp2_with fail
  have hgw : w.grownBy w1 none := gb_trans (gb_alloc (gb_refl _ _) _) hg1
  exact bodyPost_ret (v := c64 (cl 2 (P r c))) (by simp [results, Tryz.results148, go_sem, c1, z1, cl2]) rfl ⟨rfl, gb_setCell (gb_setCell (gb_setCell (gb_setCell (hgw) (.inr (Nat.le_refl _)) _) (.inr (Nat.le_refl _)) _) (.inr (Nat.le_refl _)) _) (.inr (Nat.le_refl _)) _⟩

set_option maxRecDepth 100000 in
set_option maxHeartbeats 4000000 in
theorem RGBA64At_Gray {b T pb h wd r c : Nat} {x0 y0 x y : Int} {P : Nat → Nat → Nat → Int} (w : World) (H : Pic w b T pb 1 h wd x0 y0 P) (e1 : x - x0 = c) (e2 : y - y0 = r) (hc : c < wd) (hr : r < h) :
    Calls Tryz.prog 158 #[.pointer (some ⟨b, 0, none⟩), .int .i64 x, .int .i64 y] w fun e w' => e = .returned (c64 (cl 3 (P r c))) ∧ w.grownBy w' none := by
  obtain ⟨n, cap, st, -, -, -, -, -, -, bl, px, -, -, -, -, -, -, -, -, -, -, -, hB⟩ := H.cells
  have R0 := cl_range (k := 3) (hB r c) 0
  have R1 := cl_range (k := 3) (hB r c) 1
  have R2 := cl_range (k := 3) (hB r c) 2
  have R3 := cl_range (k := 3) (hB r c) 3
  have hBB := hid (hB r c)
  have o1 := or257u (hB r c 0)
  have B0 := hB r c 0
  have bl2 := px.lt
  have E1 := hid e1
  have E2 := hid e2
  have HB := hid H
  clear px hB e1 e2
  go_enter Tryz.func158, Tryz.ntmps158
  go_wp2_with fail
  refine (GrayAt_Gray _ ((HB.out.kept (gb_weak (gb_alloc (gb_refl _ _) _) (some (w.heap.size + 1))) (by omega) (by omega))) E1.out E2.out hc hr).mono ?_
  rintro e w1 ⟨rfl, hg1⟩
  have z1 : w.heap.size < w1.heap.size := by have := hg1.size; simp at this; omega
  obtain ⟨c1, f1⟩ := gb_rules hg1
  go_wp2_with fail
  have hgw : w.grownBy w1 none := gb_trans (gb_alloc (gb_refl _ _) _) hg1
  exact bodyPost_ret (v := c64 (cl 3 (P r c))) (by simp [results, Tryz.results158, go_sem, c1, z1, cl3]) rfl ⟨rfl, gb_setCell (gb_setCell (gb_setCell (gb_setCell (hgw) (.inr (Nat.le_refl _)) _) (.inr (Nat.le_refl _)) _) (.inr (Nat.le_refl _)) _) (.inr (Nat.le_refl _)) _⟩

set_option maxRecDepth 100000 in
set_option maxHeartbeats 4000000 in
theorem RGBA64At_Uniform (f : Nat → Int) (b : Nat) (x y : Int) (w : World) (hp : ∀ i, 0 ≤ f i ∧ f i ≤ 65535) (hc : w.cell? ⟨b, 0, none⟩ = some (.iface 103 (c64 f))) (hb : b < w.heap.size) :
    Calls Tryz.prog 192 #[.pointer (some ⟨b, 0, none⟩), .int .i64 x, .int .i64 y] w fun e w' => e = .returned (c64 f) ∧ w.grownBy w' none := by
  have h0 := hp 0; have h1 := hp 1; have h2 := hp 2; have h3 := hp 3
  have Hp := hid hp
  clear hp
  go_enter Tryz.func192, Tryz.ntmps192
  go_wp2_with fail
  refine (rgba64_RGBA_c f _ Hp.out).mono ?_
  rintro e w1 ⟨rfl, hg1⟩
  have z1 : w.heap.size < w1.heap.size := by have := hg1.size; simp at this; omega
  obtain ⟨c1, f1⟩ := gb_rules hg1
  go_wp2_with fail
  have hgw : w.grownBy w1 none := gb_trans (gb_alloc (gb_refl _ _) _) hg1
  exact bodyPost_ret (v := c64 f) (by simp [results, Tryz.results192, go_sem, c1, z1]) rfl ⟨rfl, gb_setCell (gb_setCell (gb_setCell (gb_setCell (hgw) (.inr (Nat.le_refl _)) _) (.inr (Nat.le_refl _)) _) (.inr (Nat.le_refl _)) _) (.inr (Nat.le_refl _)) _⟩

set_option maxRecDepth 100000 in
set_option maxHeartbeats 4000000 in
theorem At_Uniform (f : Nat → Int) (b : Nat) (x y : Int) (w : World) (hc : w.cell? ⟨b, 0, none⟩ = some (.iface 103 (c64 f))) :
    Calls Tryz.prog 187 #[.pointer (some ⟨b, 0, none⟩), .int .i64 x, .int .i64 y] w fun e w' => e = .returned (.iface 103 (c64 f)) ∧ w.grownBy w' none := by
  go_enter Tryz.func187, Tryz.ntmps187
  go_wp2
  go_ret
  exact ⟨rfl, gb_refl _ _⟩

set_option maxRecDepth 100000 in
set_option maxHeartbeats 4000000 in
theorem At_RGBA {b T pb h wd r c : Nat} {x0 y0 x y : Int} {P : Nat → Nat → Nat → Int} (w : World) (H : Pic w b T pb 4 h wd x0 y0 P) (e1 : x - x0 = c) (e2 : y - y0 = r) (hc : c < wd) (hr : r < h) :
    Calls Tryz.prog 125 #[.pointer (some ⟨b, 0, none⟩), .int .i64 x, .int .i64 y] w fun e w' => e = .returned (.iface 174 (b4 (P r c))) ∧ w.grownBy w' none := by
  have HB := hid H
  clear H
  have E1 := hid e1
  have E2 := hid e2
  clear e1 e2
  go_enter Tryz.func125, Tryz.ntmps125
  go_wp2_with fail
  refine (RGBAAt_RGBA _ HB.out E1.out E2.out hc hr).mono ?_
  rintro e w1 ⟨rfl, hg1⟩
  go_wp2_with fail
  go_ret
  exact ⟨rfl, hg1⟩

set_option maxRecDepth 100000 in
set_option maxHeartbeats 4000000 in
theorem At_NRGBA {b T pb h wd r c : Nat} {x0 y0 x y : Int} {P : Nat → Nat → Nat → Int} (w : World) (H : Pic w b T pb 4 h wd x0 y0 P) (e1 : x - x0 = c) (e2 : y - y0 = r) (hc : c < wd) (hr : r < h) :
    Calls Tryz.prog 135 #[.pointer (some ⟨b, 0, none⟩), .int .i64 x, .int .i64 y] w fun e w' => e = .returned (.iface 176 (b4 (P r c))) ∧ w.grownBy w' none := by
  have HB := hid H
  clear H
  have E1 := hid e1
  have E2 := hid e2
  clear e1 e2
  go_enter Tryz.func135, Tryz.ntmps135
  go_wp2_with fail
  refine (NRGBAAt_NRGBA _ HB.out E1.out E2.out hc hr).mono ?_
  rintro e w1 ⟨rfl, hg1⟩
  go_wp2_with fail
  go_ret
  exact ⟨rfl, hg1⟩

set_option maxRecDepth 100000 in
set_option maxHeartbeats 4000000 in
theorem At_Alpha {b T pb h wd r c : Nat} {x0 y0 x y : Int} {P : Nat → Nat → Nat → Int} (w : World) (H : Pic w b T pb 1 h wd x0 y0 P) (e1 : x - x0 = c) (e2 : y - y0 = r) (hc : c < wd) (hr : r < h) :
    Calls Tryz.prog 144 #[.pointer (some ⟨b, 0, none⟩), .int .i64 x, .int .i64 y] w fun e w' => e = .returned (.iface 208 (.agg #[.int .u8 (P r c 0)])) ∧ w.grownBy w' none := by
  have HB := hid H
  clear H
  have E1 := hid e1
  have E2 := hid e2
  clear e1 e2
  go_enter Tryz.func144, Tryz.ntmps144
  go_wp2_with fail
  refine (AlphaAt_Alpha _ HB.out E1.out E2.out hc hr).mono ?_
  rintro e w1 ⟨rfl, hg1⟩
  go_wp2_with fail
  go_ret
  exact ⟨rfl, hg1⟩

set_option maxRecDepth 100000 in
set_option maxHeartbeats 4000000 in
theorem At_Gray {b T pb h wd r c : Nat} {x0 y0 x y : Int} {P : Nat → Nat → Nat → Int} (w : World) (H : Pic w b T pb 1 h wd x0 y0 P) (e1 : x - x0 = c) (e2 : y - y0 = r) (hc : c < wd) (hr : r < h) :
    Calls Tryz.prog 154 #[.pointer (some ⟨b, 0, none⟩), .int .i64 x, .int .i64 y] w fun e w' => e = .returned (.iface 212 (.agg #[.int .u8 (P r c 0)])) ∧ w.grownBy w' none := by
  have HB := hid H
  clear H
  have E1 := hid e1
  have E2 := hid e2
  clear e1 e2
  go_enter Tryz.func154, Tryz.ntmps154
  go_wp2_with fail
  refine (GrayAt_Gray _ HB.out E1.out E2.out hc hr).mono ?_
  rintro e w1 ⟨rfl, hg1⟩
  go_wp2_with fail
  go_ret
  exact ⟨rfl, hg1⟩

set_option maxRecDepth 100000 in
set_option maxHeartbeats 4000000 in
theorem At_RGBA64 {b T pb h wd r c : Nat} {x0 y0 x y : Int} {P : Nat → Nat → Nat → Int} (w : World) (H : Pic w b T pb 8 h wd x0 y0 P) (e1 : x - x0 = c) (e2 : y - y0 = r) (hc : c < wd) (hr : r < h) :
    Calls Tryz.prog 164 #[.pointer (some ⟨b, 0, none⟩), .int .i64 x, .int .i64 y] w fun e w' => e = .returned (.iface 103 (c64 (cl 4 (P r c)))) ∧ w.grownBy w' none := by
  have HB := hid H
  clear H
  have E1 := hid e1
  have E2 := hid e2
  clear e1 e2
  go_enter Tryz.func164, Tryz.ntmps164
  go_wp2_with fail
  refine (RGBA64At_RGBA64 _ HB.out E1.out E2.out hc hr).mono ?_
  rintro e w1 ⟨rfl, hg1⟩
  go_wp2_with fail
  go_ret
  exact ⟨rfl, hg1⟩

set_option maxRecDepth 100000 in
set_option maxHeartbeats 4000000 in
theorem At_CMYK {b T pb h wd r c : Nat} {x0 y0 x y : Int} {P : Nat → Nat → Nat → Int} (w : World) (H : Pic w b T pb 4 h wd x0 y0 P) (e1 : x - x0 = c) (e2 : y - y0 = r) (hc : c < wd) (hr : r < h) :
    Calls Tryz.prog 174 #[.pointer (some ⟨b, 0, none⟩), .int .i64 x, .int .i64 y] w fun e w' => e = .returned (.iface 217 (b4 (P r c))) ∧ w.grownBy w' none := by
  have HB := hid H
  clear H
  have E1 := hid e1
  have E2 := hid e2
  clear e1 e2
  go_enter Tryz.func174, Tryz.ntmps174
  go_wp2_with fail
  refine (CMYKAt_CMYK _ HB.out E1.out E2.out hc hr).mono ?_
  rintro e w1 ⟨rfl, hg1⟩
  go_wp2_with fail
  go_ret
  exact ⟨rfl, hg1⟩
end Go.Proofs.YtgjpohmjkhgpfaaGreat
