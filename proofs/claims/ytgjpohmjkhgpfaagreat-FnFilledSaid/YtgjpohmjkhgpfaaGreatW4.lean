/- Images: where a pixel lies, what color it has. The pixel lies in the image. -/
import Derived.Test.YtgjpohmjkhgpfaaGreatW2
set_option linter.unusedSimpArgs false
set_option linter.unusedVariables false
namespace Go.Proofs.YtgjpohmjkhgpfaaGreat
open Go.RowKit

set_option maxRecDepth 100000 in
set_option maxHeartbeats 2000000 in
theorem in_c (x y x0 y0 x1 y1 : Int) (w : World) (h1 : x0 ≤ x) (h2 : x < x1) (h3 : y0 ≤ y) (h4 : y < y1) :
    Calls Tryz.prog 95 #[vP x y, vR x0 y0 x1 y1] w fun e w' => e = .returned (.bool true) ∧ w.grownBy w' none := by
  go_enter Tryz.func95, Tryz.ntmps95
  go_wp2
  go_ret
  exact ⟨rfl, gb_alloc (gb_alloc (gb_refl _ _) _) _⟩

set_option maxRecDepth 100000 in
set_option maxHeartbeats 2000000 in
theorem off_RGBA (b st r c q : Nat) (x y x0 y0 : Int) (w : World) (h1 : w.cell? ⟨b, 1, none⟩ = some (.int .i64 st)) (h2 : w.cell? ⟨b, 2, none⟩ = some (.int .i64 x0)) (h3 : w.cell? ⟨b, 3, none⟩ = some (.int .i64 y0))
    (e1 : x - x0 = c) (e2 : y - y0 = r) (hc : c ≤ 128) (hr : r ≤ 128) (hs : st ≤ 1024) (hq : q = r * st + c * 4) :
    Calls Tryz.prog 62 #[.pointer (some ⟨b, 0, none⟩), .int .i64 x, .int .i64 y] w fun e w' => e = .returned (.int .i64 (q : Int)) ∧ w.grownBy w' none := by
  obtain ⟨m, hm⟩ : ∃ m : Nat, r * st = m := ⟨_, rfl⟩
  have f : (r : Int) * st = m := by rw [← hm]; push_cast; rfl
  have hb : m ≤ 128 * 1024 := by rw [← hm]; exact Nat.mul_le_mul hr hs
  rw [hm] at hq
  subst hq
  clear hm
  go_enter Tryz.func62, Tryz.ntmps62
  go_wp2
  go_quiet (fail)
  go_wp2
  go_ret
  exact ⟨by first | (simp; done) | go_num, gb_drewN (gb_refl _ _) _⟩

set_option maxRecDepth 100000 in
set_option maxHeartbeats 2000000 in
theorem off_NRGBA (b st r c q : Nat) (x y x0 y0 : Int) (w : World) (h1 : w.cell? ⟨b, 1, none⟩ = some (.int .i64 st)) (h2 : w.cell? ⟨b, 2, none⟩ = some (.int .i64 x0)) (h3 : w.cell? ⟨b, 3, none⟩ = some (.int .i64 y0))
    (e1 : x - x0 = c) (e2 : y - y0 = r) (hc : c ≤ 128) (hr : r ≤ 128) (hs : st ≤ 1024) (hq : q = r * st + c * 4) :
    Calls Tryz.prog 71 #[.pointer (some ⟨b, 0, none⟩), .int .i64 x, .int .i64 y] w fun e w' => e = .returned (.int .i64 (q : Int)) ∧ w.grownBy w' none := by
  obtain ⟨m, hm⟩ : ∃ m : Nat, r * st = m := ⟨_, rfl⟩
  have f : (r : Int) * st = m := by rw [← hm]; push_cast; rfl
  have hb : m ≤ 128 * 1024 := by rw [← hm]; exact Nat.mul_le_mul hr hs
  rw [hm] at hq
  subst hq
  clear hm
  go_enter Tryz.func71, Tryz.ntmps71
  go_wp2
  go_quiet (fail)
  go_wp2
  go_ret
  exact ⟨by first | (simp; done) | go_num, gb_drewN (gb_refl _ _) _⟩

set_option maxRecDepth 100000 in
set_option maxHeartbeats 2000000 in
theorem off_Alpha (b st r c q : Nat) (x y x0 y0 : Int) (w : World) (h1 : w.cell? ⟨b, 1, none⟩ = some (.int .i64 st)) (h2 : w.cell? ⟨b, 2, none⟩ = some (.int .i64 x0)) (h3 : w.cell? ⟨b, 3, none⟩ = some (.int .i64 y0))
    (e1 : x - x0 = c) (e2 : y - y0 = r) (hc : c ≤ 128) (hr : r ≤ 128) (hs : st ≤ 1024) (hq : q = r * st + c * 1) :
    Calls Tryz.prog 79 #[.pointer (some ⟨b, 0, none⟩), .int .i64 x, .int .i64 y] w fun e w' => e = .returned (.int .i64 (q : Int)) ∧ w.grownBy w' none := by
  obtain ⟨m, hm⟩ : ∃ m : Nat, r * st = m := ⟨_, rfl⟩
  have f : (r : Int) * st = m := by rw [← hm]; push_cast; rfl
  have hb : m ≤ 128 * 1024 := by rw [← hm]; exact Nat.mul_le_mul hr hs
  rw [hm] at hq
  subst hq
  clear hm
  go_enter Tryz.func79, Tryz.ntmps79
  go_wp2
  go_quiet (fail)
  go_wp2
  go_ret
  exact ⟨by first | (simp; done) | go_num, gb_drewN (gb_refl _ _) _⟩

set_option maxRecDepth 100000 in
set_option maxHeartbeats 2000000 in
theorem off_Gray (b st r c q : Nat) (x y x0 y0 : Int) (w : World) (h1 : w.cell? ⟨b, 1, none⟩ = some (.int .i64 st)) (h2 : w.cell? ⟨b, 2, none⟩ = some (.int .i64 x0)) (h3 : w.cell? ⟨b, 3, none⟩ = some (.int .i64 y0))
    (e1 : x - x0 = c) (e2 : y - y0 = r) (hc : c ≤ 128) (hr : r ≤ 128) (hs : st ≤ 1024) (hq : q = r * st + c * 1) :
    Calls Tryz.prog 81 #[.pointer (some ⟨b, 0, none⟩), .int .i64 x, .int .i64 y] w fun e w' => e = .returned (.int .i64 (q : Int)) ∧ w.grownBy w' none := by
  obtain ⟨m, hm⟩ : ∃ m : Nat, r * st = m := ⟨_, rfl⟩
  have f : (r : Int) * st = m := by rw [← hm]; push_cast; rfl
  have hb : m ≤ 128 * 1024 := by rw [← hm]; exact Nat.mul_le_mul hr hs
  rw [hm] at hq
  subst hq
  clear hm
  go_enter Tryz.func81, Tryz.ntmps81
  go_wp2
  go_quiet (fail)
  go_wp2
  go_ret
  exact ⟨by first | (simp; done) | go_num, gb_drewN (gb_refl _ _) _⟩

set_option maxRecDepth 100000 in
set_option maxHeartbeats 2000000 in
theorem off_RGBA64 (b st r c q : Nat) (x y x0 y0 : Int) (w : World) (h1 : w.cell? ⟨b, 1, none⟩ = some (.int .i64 st)) (h2 : w.cell? ⟨b, 2, none⟩ = some (.int .i64 x0)) (h3 : w.cell? ⟨b, 3, none⟩ = some (.int .i64 y0))
    (e1 : x - x0 = c) (e2 : y - y0 = r) (hc : c ≤ 128) (hr : r ≤ 128) (hs : st ≤ 1024) (hq : q = r * st + c * 8) :
    Calls Tryz.prog 171 #[.pointer (some ⟨b, 0, none⟩), .int .i64 x, .int .i64 y] w fun e w' => e = .returned (.int .i64 (q : Int)) ∧ w.grownBy w' none := by
  obtain ⟨m, hm⟩ : ∃ m : Nat, r * st = m := ⟨_, rfl⟩
  have f : (r : Int) * st = m := by rw [← hm]; push_cast; rfl
  have hb : m ≤ 128 * 1024 := by rw [← hm]; exact Nat.mul_le_mul hr hs
  rw [hm] at hq
  subst hq
  clear hm
  go_enter Tryz.func171, Tryz.ntmps171
  go_wp2
  go_quiet (fail)
  go_wp2
  go_ret
  exact ⟨by first | (simp; done) | go_num, gb_drewN (gb_refl _ _) _⟩

set_option maxRecDepth 100000 in
set_option maxHeartbeats 2000000 in
theorem off_CMYK (b st r c q : Nat) (x y x0 y0 : Int) (w : World) (h1 : w.cell? ⟨b, 1, none⟩ = some (.int .i64 st)) (h2 : w.cell? ⟨b, 2, none⟩ = some (.int .i64 x0)) (h3 : w.cell? ⟨b, 3, none⟩ = some (.int .i64 y0))
    (e1 : x - x0 = c) (e2 : y - y0 = r) (hc : c ≤ 128) (hr : r ≤ 128) (hs : st ≤ 1024) (hq : q = r * st + c * 4) :
    Calls Tryz.prog 183 #[.pointer (some ⟨b, 0, none⟩), .int .i64 x, .int .i64 y] w fun e w' => e = .returned (.int .i64 (q : Int)) ∧ w.grownBy w' none := by
  obtain ⟨m, hm⟩ : ∃ m : Nat, r * st = m := ⟨_, rfl⟩
  have f : (r : Int) * st = m := by rw [← hm]; push_cast; rfl
  have hb : m ≤ 128 * 1024 := by rw [← hm]; exact Nat.mul_le_mul hr hs
  rw [hm] at hq
  subst hq
  clear hm
  go_enter Tryz.func183, Tryz.ntmps183
  go_wp2
  go_quiet (fail)
  go_wp2
  go_ret
  exact ⟨by first | (simp; done) | go_num, gb_drewN (gb_refl _ _) _⟩

set_option maxRecDepth 100000 in
set_option maxHeartbeats 2000000 in
theorem bounds_RGBA {b T pb k h wd : Nat} {x0 y0 : Int} {P : Nat → Nat → Nat → Int} (w : World) (H : Pic w b T pb k h wd x0 y0 P) :
    Calls Tryz.prog 126 #[.pointer (some ⟨b, 0, none⟩)] w fun e w' => e = .returned (vR x0 y0 (x0 + wd) (y0 + h)) ∧ w.grownBy w' none := by
  obtain ⟨n, cap, st, D0, D1, D2, D3, D4, D5, bl, -⟩ := H.cells
  clear H
  go_enter Tryz.func126, Tryz.ntmps126
  go_wp2
  exact bodyPost_ret (v := vR x0 y0 (x0 + wd) (y0 + h)) (by simp [results, Tryz.results126, go_sem]) rfl ⟨rfl, gb_alloc (gb_refl _ _) _⟩

set_option maxRecDepth 100000 in
set_option maxHeartbeats 2000000 in
theorem bounds_NRGBA {b T pb k h wd : Nat} {x0 y0 : Int} {P : Nat → Nat → Nat → Int} (w : World) (H : Pic w b T pb k h wd x0 y0 P) :
    Calls Tryz.prog 136 #[.pointer (some ⟨b, 0, none⟩)] w fun e w' => e = .returned (vR x0 y0 (x0 + wd) (y0 + h)) ∧ w.grownBy w' none := by
  obtain ⟨n, cap, st, D0, D1, D2, D3, D4, D5, bl, -⟩ := H.cells
  clear H
  go_enter Tryz.func136, Tryz.ntmps136
  go_wp2
  exact bodyPost_ret (v := vR x0 y0 (x0 + wd) (y0 + h)) (by simp [results, Tryz.results136, go_sem]) rfl ⟨rfl, gb_alloc (gb_refl _ _) _⟩

set_option maxRecDepth 100000 in
set_option maxHeartbeats 2000000 in
theorem bounds_Alpha {b T pb k h wd : Nat} {x0 y0 : Int} {P : Nat → Nat → Nat → Int} (w : World) (H : Pic w b T pb k h wd x0 y0 P) :
    Calls Tryz.prog 145 #[.pointer (some ⟨b, 0, none⟩)] w fun e w' => e = .returned (vR x0 y0 (x0 + wd) (y0 + h)) ∧ w.grownBy w' none := by
  obtain ⟨n, cap, st, D0, D1, D2, D3, D4, D5, bl, -⟩ := H.cells
  clear H
  go_enter Tryz.func145, Tryz.ntmps145
  go_wp2
  exact bodyPost_ret (v := vR x0 y0 (x0 + wd) (y0 + h)) (by simp [results, Tryz.results145, go_sem]) rfl ⟨rfl, gb_alloc (gb_refl _ _) _⟩

set_option maxRecDepth 100000 in
set_option maxHeartbeats 2000000 in
theorem bounds_Gray {b T pb k h wd : Nat} {x0 y0 : Int} {P : Nat → Nat → Nat → Int} (w : World) (H : Pic w b T pb k h wd x0 y0 P) :
    Calls Tryz.prog 155 #[.pointer (some ⟨b, 0, none⟩)] w fun e w' => e = .returned (vR x0 y0 (x0 + wd) (y0 + h)) ∧ w.grownBy w' none := by
  obtain ⟨n, cap, st, D0, D1, D2, D3, D4, D5, bl, -⟩ := H.cells
  clear H
  go_enter Tryz.func155, Tryz.ntmps155
  go_wp2
  exact bodyPost_ret (v := vR x0 y0 (x0 + wd) (y0 + h)) (by simp [results, Tryz.results155, go_sem]) rfl ⟨rfl, gb_alloc (gb_refl _ _) _⟩

set_option maxRecDepth 100000 in
set_option maxHeartbeats 2000000 in
theorem bounds_RGBA64 {b T pb k h wd : Nat} {x0 y0 : Int} {P : Nat → Nat → Nat → Int} (w : World) (H : Pic w b T pb k h wd x0 y0 P) :
    Calls Tryz.prog 165 #[.pointer (some ⟨b, 0, none⟩)] w fun e w' => e = .returned (vR x0 y0 (x0 + wd) (y0 + h)) ∧ w.grownBy w' none := by
  obtain ⟨n, cap, st, D0, D1, D2, D3, D4, D5, bl, -⟩ := H.cells
  clear H
  go_enter Tryz.func165, Tryz.ntmps165
  go_wp2
  exact bodyPost_ret (v := vR x0 y0 (x0 + wd) (y0 + h)) (by simp [results, Tryz.results165, go_sem]) rfl ⟨rfl, gb_alloc (gb_refl _ _) _⟩

set_option maxRecDepth 100000 in
set_option maxHeartbeats 2000000 in
theorem bounds_CMYK {b T pb k h wd : Nat} {x0 y0 : Int} {P : Nat → Nat → Nat → Int} (w : World) (H : Pic w b T pb k h wd x0 y0 P) :
    Calls Tryz.prog 175 #[.pointer (some ⟨b, 0, none⟩)] w fun e w' => e = .returned (vR x0 y0 (x0 + wd) (y0 + h)) ∧ w.grownBy w' none := by
  obtain ⟨n, cap, st, D0, D1, D2, D3, D4, D5, bl, -⟩ := H.cells
  clear H
  go_enter Tryz.func175, Tryz.ntmps175
  go_wp2
  exact bodyPost_ret (v := vR x0 y0 (x0 + wd) (y0 + h)) (by simp [results, Tryz.results175, go_sem]) rfl ⟨rfl, gb_alloc (gb_refl _ _) _⟩

set_option maxRecDepth 100000 in
set_option maxHeartbeats 2000000 in
theorem bounds_Uniform (a : Addr) (w : World) :
    Calls Tryz.prog 188 #[.pointer (some a)] w fun e w' => e = .returned (vR (-1000000000) (-1000000000) 1000000000 1000000000) ∧ w.grownBy w' none := by
  go_enter Tryz.func188, Tryz.ntmps188
  go_wp2
  exact bodyPost_ret (v := vR (-1000000000) (-1000000000) 1000000000 1000000000) (by simp [results, Tryz.results188, go_sem]) rfl ⟨rfl, gb_alloc (gb_refl _ _) _⟩
end Go.Proofs.YtgjpohmjkhgpfaaGreat
