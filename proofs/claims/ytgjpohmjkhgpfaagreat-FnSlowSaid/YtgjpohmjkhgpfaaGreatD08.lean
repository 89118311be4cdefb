/- Parts of the proof: what the functions of the package and of the reference do (LN). No condition but those that each theorem names. -/
import Derived.Test.YtgjpohmjkhgpfaaGreatD07
import Derived.Deep.RegionWith
set_option linter.unusedSimpArgs false
set_option linter.unusedVariables false
namespace Go.Proofs.YtgjpohmjkhgpfaaGreat
open Go.RowKit

theorem cell_add {w : World} {A : Addr} {n i0 : Nat} {p : Nat → Int} {ab ao : Nat} {ap : Option Nat} (ha : A.add i0 = ⟨ab, ao, ap⟩) (h : ∀ i, i < n → w.cell? (A.add i) = some (.int .u8 (p i))) : ∀ i, 0 < i → i0 + i < n → w.cell? ⟨ab, ao + i, none⟩ = some (.int .u8 (p (i0 + i))) := by
  intro i hi hlt
  have e : (⟨ab, ao, ap⟩ : Addr).add i = ⟨ab, ao + i, none⟩ := by unfold Addr.add; rw [if_neg (by omega)]
  rw [← e, ← ha, add_add]
  exact h _ hlt


set_option maxRecDepth 100000 in
set_option maxHeartbeats 8000000 in
theorem at_0 {r c wd h n cp : Nat} {x0 y0 x1 y1 x y : Int} {A : Option Addr} {p q : Nat → Int} (w : World) (H : Rd w A n p) (hp : By p) (hn : n ≤ cp) (hc : cp ≤ 9223372036854775807)
    (e1 : x - x0 = c) (e2 : y - y0 = r) (e3 : x1 - x0 = wd) (l1 : c < wd) (l2 : r < h) (hnn : n = h * (wd * 4)) (l3 : wd ≤ 128) (l4 : h ≤ 128) (v1 : -5000 ≤ x0 ∧ x0 ≤ 5000) (v2 : -5000 ≤ y0 ∧ y0 ≤ 5000) (hq : q = fun ch => p (r * (wd * 4) + c * 4 + ch)) :
    Calls Tryz.prog 32 #[vI 0 x0 y0 x1 y1 A n cp, .int .i64 x, .int .i64 y] w fun e w' => e = .returned (v4i (cl 0 q 0) (cl 0 q 1) (cl 0 q 2) (cl 0 q 3)) ∧ w.grownBy w' none := by
  obtain ⟨m1, hm1⟩ : ∃ m1 : Nat, r * wd = m1 := ⟨_, rfl⟩
  have f1 : (r : Int) * wd = m1 := by rw [← hm1]; push_cast; rfl
  obtain ⟨d1, hd1⟩ : ∃ d1 : Nat, m1 + c = d1 := ⟨_, rfl⟩
  have f2 : (m1 : Int) + x - x0 = (d1 : Int) := by omega
  have hfit := pix_bound (k := 4) l2 l1 (show 4 - 1 < 4 by omega)
  rw [← hnn] at hfit
  have hmul : r * (wd * 4) + c * 4 = d1 * 4 := by rw [← hd1, ← hm1, Nat.add_mul, Nat.mul_assoc]
  have hnb : n ≤ 131072 := by rw [hnn]; exact Nat.le_trans (Nat.mul_le_mul l4 (Nat.mul_le_mul l3 (Nat.le_refl 4))) (by omega)
  obtain ⟨i0, hi0⟩ : ∃ i0 : Nat, d1 * 4 = i0 := ⟨_, rfl⟩
  have f3 : (4 : Int) * (d1 : Int) = (i0 : Int) := by omega
  rw [hmul, hi0] at hq hfit
  have hfit' : i0 + 4 ≤ n := by omega
  obtain ⟨a, hA, hb, hca⟩ := H (by omega)
  subst hA
  rcases ha : a.add i0 with ⟨ab, ao, ap⟩
  have hb' : ab < w.heap.size := by have := add_block a i0; rw [ha] at this; rw [show ab = a.block from this]; exact hb
  have K0 : w.cell? ⟨ab, ao, ap⟩ = some (.int .u8 (q 0)) := by rw [← ha, hq]; exact hca _ (by omega)
  have K1 : w.cell? ⟨ab, ao + 1, none⟩ = some (.int .u8 (q 1)) := by rw [hq]; exact cell_add ha hca 1 (by omega) (by omega)
  have K2 : w.cell? ⟨ab, ao + 2, none⟩ = some (.int .u8 (q 2)) := by rw [hq]; exact cell_add ha hca 2 (by omega) (by omega)
  have K3 : w.cell? ⟨ab, ao + 3, none⟩ = some (.int .u8 (q 3)) := by rw [hq]; exact cell_add ha hca 3 (by omega) (by omega)
  have bq : By q := by rw [hq]; exact fun i => hp _
  have B0 := bq 0
  have B1 := bq 1
  have B2 := bq 2
  have B3 := bq 3
  have E0 : cl 0 q 0 = q 0 * 257 := rfl
  have E1 : cl 0 q 1 = q 1 * 257 := rfl
  have E2 : cl 0 q 2 = q 2 * 257 := rfl
  have E3 : cl 0 q 3 = q 3 * 257 := rfl
  rw [E0, E1, E2, E3]
  clear E0 E1 E2 E3
  have g1 : (0 : Int) ≤ (i0 : Int) := by omega
  have g2 : (i0 : Int) ≤ (n : Int) := by omega
  have g3 : (i0 : Int) ≤ (cp : Int) := by omega
  have g4 : ¬ (cp = i0) := by omega
  have g5 : 4 ≤ cp - i0 := by omega
  clear hca hb hmul hm1 hd1 hi0 hq hp H hfit hnn
  go_enter Tryz.func32, Tryz.ntmps32
  go_wp2_with fail
  refine (size_c 0 (by omega) _).mono ?_
  rintro e wz ⟨he, rfl⟩
  have he : e = .returned (.int .i64 4) := he
  subst he
  go_wp2_with fail
  go_loopw [51] (fun u wr => w.grownBy wr none ∧ w.heap.size + 2 < wr.heap.size ∧ Cells4 wr (w.heap.size + 1) 0 0 0 0 ∧ ((u = .int .i64 0 ∧ Cells4 wr (w.heap.size + 2) 0 0 0 0) ∨ (u = .int .i64 1 ∧ Cells4 wr (w.heap.size + 2) (q 0 * 257) 0 0 0) ∨ (u = .int .i64 2 ∧ Cells4 wr (w.heap.size + 2) (q 0 * 257) (q 1 * 257) 0 0) ∨ (u = .int .i64 3 ∧ Cells4 wr (w.heap.size + 2) (q 0 * 257) (q 1 * 257) (q 2 * 257) 0) ∨ (u = .int .i64 4 ∧ Cells4 wr (w.heap.size + 2) (q 0 * 257) (q 1 * 257) (q 2 * 257) (q 3 * 257)))) (fun u _ => (4 - intOf u).toNat)
  case atStart => exact ⟨by (repeat (first | exact gb_refl _ _ | refine gb_alloc ?_ _)), by simp, ⟨by go_simp, by go_simp, by go_simp, by go_simp, by go_simp, by go_simp, by go_simp, by go_simp⟩, .inl ⟨rfl, by go_simp, by go_simp, by go_simp, by go_simp, by go_simp, by go_simp, by go_simp, by go_simp⟩⟩
  case round =>
    obtain ⟨hg, hz, ⟨z0, z1, z2, z3, Z0, Z1, Z2, Z3⟩, hrel⟩ := hrel
    have HG := hid hg
    have k0 := (gb_cell0 hg (p := ⟨ab, ao, ap⟩) hb').trans K0
    have k1 := (gb_cell0 hg (p := ⟨ab, ao + 1, none⟩) hb').trans K1
    have k2 := (gb_cell0 hg (p := ⟨ab, ao + 2, none⟩) hb').trans K2
    have k3 := (gb_cell0 hg (p := ⟨ab, ao + 3, none⟩) hb').trans K3
    have hbr : ab < wr.heap.size := Nat.lt_of_lt_of_le hb' hg.size
    clear hg K0 K1 K2 K3
    rcases hrel with ⟨rfl, c0, c1, c2, c3, C0, C1, C2, C3⟩ | ⟨rfl, c0, c1, c2, c3, C0, C1, C2, C3⟩ | ⟨rfl, c0, c1, c2, c3, C0, C1, C2, C3⟩ | ⟨rfl, c0, c1, c2, c3, C0, C1, C2, C3⟩ | ⟨rfl, c0, c1, c2, c3, C0, C1, C2, C3⟩
    · go_wp2
      first | exact ⟨⟨by (repeat (first | exact HG.out | refine gb_drew ?_ | refine gb_drewN ?_ _ | refine gb_setCell ?_ (.inr (by simp <;> omega)) _)), by go_simp, ⟨by go_simp, by go_simp, by go_simp, by go_simp, by go_simp, by go_simp, by go_simp, by go_simp⟩, .inr (.inl ⟨rfl, by go_simp, by go_simp, by go_simp, by go_simp, by go_simp, by go_simp, by go_simp, by go_simp⟩)⟩, by first | omega | (simp [intOf] <;> omega)⟩ | (go_simp; exact ⟨⟨by (repeat (first | exact HG.out | refine gb_drew ?_ | refine gb_drewN ?_ _ | refine gb_setCell ?_ (.inr (by simp <;> omega)) _)), ⟨by go_simp, by go_simp, by go_simp, by go_simp, by go_simp, by go_simp, by go_simp, by go_simp⟩, ⟨by go_simp, by go_simp, by go_simp, by go_simp, by go_simp, by go_simp, by go_simp, by go_simp⟩⟩, by first | omega | (simp [intOf] <;> omega)⟩)
    · go_wp2
      first | exact ⟨⟨by (repeat (first | exact HG.out | refine gb_drew ?_ | refine gb_drewN ?_ _ | refine gb_setCell ?_ (.inr (by simp <;> omega)) _)), by go_simp, ⟨by go_simp, by go_simp, by go_simp, by go_simp, by go_simp, by go_simp, by go_simp, by go_simp⟩, .inr (.inr (.inl ⟨rfl, by go_simp, by go_simp, by go_simp, by go_simp, by go_simp, by go_simp, by go_simp, by go_simp⟩))⟩, by first | omega | (simp [intOf] <;> omega)⟩ | (go_simp; exact ⟨⟨by (repeat (first | exact HG.out | refine gb_drew ?_ | refine gb_drewN ?_ _ | refine gb_setCell ?_ (.inr (by simp <;> omega)) _)), ⟨by go_simp, by go_simp, by go_simp, by go_simp, by go_simp, by go_simp, by go_simp, by go_simp⟩, ⟨by go_simp, by go_simp, by go_simp, by go_simp, by go_simp, by go_simp, by go_simp, by go_simp⟩⟩, by first | omega | (simp [intOf] <;> omega)⟩)
    · go_wp2
      first | exact ⟨⟨by (repeat (first | exact HG.out | refine gb_drew ?_ | refine gb_drewN ?_ _ | refine gb_setCell ?_ (.inr (by simp <;> omega)) _)), by go_simp, ⟨by go_simp, by go_simp, by go_simp, by go_simp, by go_simp, by go_simp, by go_simp, by go_simp⟩, .inr (.inr (.inr (.inl ⟨rfl, by go_simp, by go_simp, by go_simp, by go_simp, by go_simp, by go_simp, by go_simp, by go_simp⟩)))⟩, by first | omega | (simp [intOf] <;> omega)⟩ | (go_simp; exact ⟨⟨by (repeat (first | exact HG.out | refine gb_drew ?_ | refine gb_drewN ?_ _ | refine gb_setCell ?_ (.inr (by simp <;> omega)) _)), ⟨by go_simp, by go_simp, by go_simp, by go_simp, by go_simp, by go_simp, by go_simp, by go_simp⟩, ⟨by go_simp, by go_simp, by go_simp, by go_simp, by go_simp, by go_simp, by go_simp, by go_simp⟩⟩, by first | omega | (simp [intOf] <;> omega)⟩)
    · go_wp2
      first | exact ⟨⟨by (repeat (first | exact HG.out | refine gb_drew ?_ | refine gb_drewN ?_ _ | refine gb_setCell ?_ (.inr (by simp <;> omega)) _)), by go_simp, ⟨by go_simp, by go_simp, by go_simp, by go_simp, by go_simp, by go_simp, by go_simp, by go_simp⟩, .inr (.inr (.inr (.inr (⟨rfl, by go_simp, by go_simp, by go_simp, by go_simp, by go_simp, by go_simp, by go_simp, by go_simp⟩))))⟩, by first | omega | (simp [intOf] <;> omega)⟩ | (go_simp; exact ⟨⟨by (repeat (first | exact HG.out | refine gb_drew ?_ | refine gb_drewN ?_ _ | refine gb_setCell ?_ (.inr (by simp <;> omega)) _)), ⟨by go_simp, by go_simp, by go_simp, by go_simp, by go_simp, by go_simp, by go_simp, by go_simp⟩, ⟨by go_simp, by go_simp, by go_simp, by go_simp, by go_simp, by go_simp, by go_simp, by go_simp⟩⟩, by first | omega | (simp [intOf] <;> omega)⟩)
    · go_wp2
      exact bodyPost_ret (v := v4i (q 0 * 257) (q 1 * 257) (q 2 * 257) (q 3 * 257)) (by simp [results, Tryz.results32, go_sem, z0, z1, z2, z3]) rfl ⟨rfl, by (repeat (first | exact HG.out | refine gb_drew ?_ | refine gb_drewN ?_ _ | refine gb_setCell ?_ (.inr (by simp <;> omega)) _))⟩

set_option maxRecDepth 100000 in
set_option maxHeartbeats 8000000 in
theorem at_1 {r c wd h n cp : Nat} {x0 y0 x1 y1 x y : Int} {A : Option Addr} {p q : Nat → Int} (w : World) (H : Rd w A n p) (hp : By p) (hn : n ≤ cp) (hc : cp ≤ 9223372036854775807)
    (e1 : x - x0 = c) (e2 : y - y0 = r) (e3 : x1 - x0 = wd) (l1 : c < wd) (l2 : r < h) (hnn : n = h * (wd * 4)) (l3 : wd ≤ 128) (l4 : h ≤ 128) (v1 : -5000 ≤ x0 ∧ x0 ≤ 5000) (v2 : -5000 ≤ y0 ∧ y0 ≤ 5000) (hq : q = fun ch => p (r * (wd * 4) + c * 4 + ch)) :
    Calls Tryz.prog 32 #[vI 1 x0 y0 x1 y1 A n cp, .int .i64 x, .int .i64 y] w fun e w' => e = .returned (v4i (cl 1 q 0) (cl 1 q 1) (cl 1 q 2) (cl 1 q 3)) ∧ w.grownBy w' none := by
  obtain ⟨m1, hm1⟩ : ∃ m1 : Nat, r * wd = m1 := ⟨_, rfl⟩
  have f1 : (r : Int) * wd = m1 := by rw [← hm1]; push_cast; rfl
  obtain ⟨d1, hd1⟩ : ∃ d1 : Nat, m1 + c = d1 := ⟨_, rfl⟩
  have f2 : (m1 : Int) + x - x0 = (d1 : Int) := by omega
  have hfit := pix_bound (k := 4) l2 l1 (show 4 - 1 < 4 by omega)
  rw [← hnn] at hfit
  have hmul : r * (wd * 4) + c * 4 = d1 * 4 := by rw [← hd1, ← hm1, Nat.add_mul, Nat.mul_assoc]
  have hnb : n ≤ 131072 := by rw [hnn]; exact Nat.le_trans (Nat.mul_le_mul l4 (Nat.mul_le_mul l3 (Nat.le_refl 4))) (by omega)
  obtain ⟨i0, hi0⟩ : ∃ i0 : Nat, d1 * 4 = i0 := ⟨_, rfl⟩
  have f3 : (4 : Int) * (d1 : Int) = (i0 : Int) := by omega
  rw [hmul, hi0] at hq hfit
  have hfit' : i0 + 4 ≤ n := by omega
  obtain ⟨a, hA, hb, hca⟩ := H (by omega)
  subst hA
  rcases ha : a.add i0 with ⟨ab, ao, ap⟩
  have hb' : ab < w.heap.size := by have := add_block a i0; rw [ha] at this; rw [show ab = a.block from this]; exact hb
  have K0 : w.cell? ⟨ab, ao, ap⟩ = some (.int .u8 (q 0)) := by rw [← ha, hq]; exact hca _ (by omega)
  have K1 : w.cell? ⟨ab, ao + 1, none⟩ = some (.int .u8 (q 1)) := by rw [hq]; exact cell_add ha hca 1 (by omega) (by omega)
  have K2 : w.cell? ⟨ab, ao + 2, none⟩ = some (.int .u8 (q 2)) := by rw [hq]; exact cell_add ha hca 2 (by omega) (by omega)
  have K3 : w.cell? ⟨ab, ao + 3, none⟩ = some (.int .u8 (q 3)) := by rw [hq]; exact cell_add ha hca 3 (by omega) (by omega)
  have bq : By q := by rw [hq]; exact fun i => hp _
  have B0 := bq 0
  have B1 := bq 1
  have B2 := bq 2
  have B3 := bq 3
  obtain ⟨P0, hP0⟩ : ∃ P, q 0 * 257 * q 3 = P := ⟨_, rfl⟩
  have bP0 := prod3 B0 B3
  rw [hP0] at bP0
  obtain ⟨P1, hP1⟩ : ∃ P, q 1 * 257 * q 3 = P := ⟨_, rfl⟩
  have bP1 := prod3 B1 B3
  rw [hP1] at bP1
  obtain ⟨P2, hP2⟩ : ∃ P, q 2 * 257 * q 3 = P := ⟨_, rfl⟩
  have bP2 := prod3 B2 B3
  rw [hP2] at bP2
  have E0 : cl 1 q 0 = P0 / 255 := by rw [cl1, if_neg (by omega), hP0]
  have E1 : cl 1 q 1 = P1 / 255 := by rw [cl1, if_neg (by omega), hP1]
  have E2 : cl 1 q 2 = P2 / 255 := by rw [cl1, if_neg (by omega), hP2]
  have E3 : cl 1 q 3 = q 3 * 257 := by rw [cl1, if_pos rfl]
  rw [E0, E1, E2, E3]
  clear E0 E1 E2 E3
  have g1 : (0 : Int) ≤ (i0 : Int) := by omega
  have g2 : (i0 : Int) ≤ (n : Int) := by omega
  have g3 : (i0 : Int) ≤ (cp : Int) := by omega
  have g4 : ¬ (cp = i0) := by omega
  have g5 : 4 ≤ cp - i0 := by omega
  clear hca hb hmul hm1 hd1 hi0 hq hp H hfit hnn
  go_enter Tryz.func32, Tryz.ntmps32
  go_wp2_with fail
  refine (size_c 1 (by omega) _).mono ?_
  rintro e wz ⟨he, rfl⟩
  have he : e = .returned (.int .i64 4) := he
  subst he
  go_wp2_with fail
  go_loopw [65] (fun u wr => w.grownBy wr none ∧ w.heap.size + 2 < wr.heap.size ∧ Cells4 wr (w.heap.size + 1) 0 0 0 0 ∧ ((u = .int .i64 0 ∧ Cells4 wr (w.heap.size + 2) 0 0 0 0) ∨ (u = .int .i64 1 ∧ Cells4 wr (w.heap.size + 2) (P0 / 255) 0 0 0) ∨ (u = .int .i64 2 ∧ Cells4 wr (w.heap.size + 2) (P0 / 255) (P1 / 255) 0 0) ∨ (u = .int .i64 3 ∧ Cells4 wr (w.heap.size + 2) (P0 / 255) (P1 / 255) (P2 / 255) 0))) (fun u _ => (3 - intOf u).toNat)
  case atStart => exact ⟨by (repeat (first | exact gb_refl _ _ | refine gb_alloc ?_ _)), by simp, ⟨by go_simp, by go_simp, by go_simp, by go_simp, by go_simp, by go_simp, by go_simp, by go_simp⟩, .inl ⟨rfl, by go_simp, by go_simp, by go_simp, by go_simp, by go_simp, by go_simp, by go_simp, by go_simp⟩⟩
  case round =>
    obtain ⟨hg, hz, ⟨z0, z1, z2, z3, Z0, Z1, Z2, Z3⟩, hrel⟩ := hrel
    have HG := hid hg
    have k0 := (gb_cell0 hg (p := ⟨ab, ao, ap⟩) hb').trans K0
    have k1 := (gb_cell0 hg (p := ⟨ab, ao + 1, none⟩) hb').trans K1
    have k2 := (gb_cell0 hg (p := ⟨ab, ao + 2, none⟩) hb').trans K2
    have k3 := (gb_cell0 hg (p := ⟨ab, ao + 3, none⟩) hb').trans K3
    have hbr : ab < wr.heap.size := Nat.lt_of_lt_of_le hb' hg.size
    clear hg K0 K1 K2 K3
    rcases hrel with ⟨rfl, c0, c1, c2, c3, C0, C1, C2, C3⟩ | ⟨rfl, c0, c1, c2, c3, C0, C1, C2, C3⟩ | ⟨rfl, c0, c1, c2, c3, C0, C1, C2, C3⟩ | ⟨rfl, c0, c1, c2, c3, C0, C1, C2, C3⟩
    · go_wp2
      go_region_with (fail)
      all_goals (go_wp2; first | exact ⟨⟨by (repeat (first | exact HG.out | refine gb_drew ?_ | refine gb_drewN ?_ _ | refine gb_setCell ?_ (.inr (by simp <;> omega)) _)), by go_simp, ⟨by go_simp, by go_simp, by go_simp, by go_simp, by go_simp, by go_simp, by go_simp, by go_simp⟩, .inr (.inl ⟨rfl, by go_simp, by go_simp, by go_simp, by go_simp, by go_simp, by go_simp, by go_simp, by go_simp⟩)⟩, by first | omega | (simp [intOf] <;> omega)⟩ | (go_simp; exact ⟨⟨by (repeat (first | exact HG.out | refine gb_drew ?_ | refine gb_drewN ?_ _ | refine gb_setCell ?_ (.inr (by simp <;> omega)) _)), ⟨by go_simp, by go_simp, by go_simp, by go_simp, by go_simp, by go_simp, by go_simp, by go_simp⟩, ⟨by go_simp, by go_simp, by go_simp, by go_simp, by go_simp, by go_simp, by go_simp, by go_simp⟩⟩, by first | omega | (simp [intOf] <;> omega)⟩))
    · go_wp2
      go_region_with (fail)
      all_goals (go_wp2; first | exact ⟨⟨by (repeat (first | exact HG.out | refine gb_drew ?_ | refine gb_drewN ?_ _ | refine gb_setCell ?_ (.inr (by simp <;> omega)) _)), by go_simp, ⟨by go_simp, by go_simp, by go_simp, by go_simp, by go_simp, by go_simp, by go_simp, by go_simp⟩, .inr (.inr (.inl ⟨rfl, by go_simp, by go_simp, by go_simp, by go_simp, by go_simp, by go_simp, by go_simp, by go_simp⟩))⟩, by first | omega | (simp [intOf] <;> omega)⟩ | (go_simp; exact ⟨⟨by (repeat (first | exact HG.out | refine gb_drew ?_ | refine gb_drewN ?_ _ | refine gb_setCell ?_ (.inr (by simp <;> omega)) _)), ⟨by go_simp, by go_simp, by go_simp, by go_simp, by go_simp, by go_simp, by go_simp, by go_simp⟩, ⟨by go_simp, by go_simp, by go_simp, by go_simp, by go_simp, by go_simp, by go_simp, by go_simp⟩⟩, by first | omega | (simp [intOf] <;> omega)⟩))
    · go_wp2
      go_region_with (fail)
      all_goals (go_wp2; first | exact ⟨⟨by (repeat (first | exact HG.out | refine gb_drew ?_ | refine gb_drewN ?_ _ | refine gb_setCell ?_ (.inr (by simp <;> omega)) _)), by go_simp, ⟨by go_simp, by go_simp, by go_simp, by go_simp, by go_simp, by go_simp, by go_simp, by go_simp⟩, .inr (.inr (.inr (⟨rfl, by go_simp, by go_simp, by go_simp, by go_simp, by go_simp, by go_simp, by go_simp, by go_simp⟩)))⟩, by first | omega | (simp [intOf] <;> omega)⟩ | (go_simp; exact ⟨⟨by (repeat (first | exact HG.out | refine gb_drew ?_ | refine gb_drewN ?_ _ | refine gb_setCell ?_ (.inr (by simp <;> omega)) _)), ⟨by go_simp, by go_simp, by go_simp, by go_simp, by go_simp, by go_simp, by go_simp, by go_simp⟩, ⟨by go_simp, by go_simp, by go_simp, by go_simp, by go_simp, by go_simp, by go_simp, by go_simp⟩⟩, by first | omega | (simp [intOf] <;> omega)⟩))
    · go_wp2
      exact bodyPost_ret (v := v4i (P0 / 255) (P1 / 255) (P2 / 255) (q 3 * 257)) (by simp [results, Tryz.results32, go_sem, z0, z1, z2, z3]) rfl ⟨rfl, by (repeat (first | exact HG.out | refine gb_drew ?_ | refine gb_drewN ?_ _ | refine gb_setCell ?_ (.inr (by simp <;> omega)) _))⟩

set_option maxRecDepth 100000 in
set_option maxHeartbeats 8000000 in
theorem at_2 {r c wd h n cp : Nat} {x0 y0 x1 y1 x y : Int} {A : Option Addr} {p q : Nat → Int} (w : World) (H : Rd w A n p) (hp : By p) (hn : n ≤ cp) (hc : cp ≤ 9223372036854775807)
    (e1 : x - x0 = c) (e2 : y - y0 = r) (e3 : x1 - x0 = wd) (l1 : c < wd) (l2 : r < h) (hnn : n = h * (wd * 1)) (l3 : wd ≤ 128) (l4 : h ≤ 128) (v1 : -5000 ≤ x0 ∧ x0 ≤ 5000) (v2 : -5000 ≤ y0 ∧ y0 ≤ 5000) (hq : q = fun ch => p (r * (wd * 1) + c * 1 + ch)) :
    Calls Tryz.prog 32 #[vI 2 x0 y0 x1 y1 A n cp, .int .i64 x, .int .i64 y] w fun e w' => e = .returned (v4i (cl 2 q 0) (cl 2 q 1) (cl 2 q 2) (cl 2 q 3)) ∧ w.grownBy w' none := by
  obtain ⟨m1, hm1⟩ : ∃ m1 : Nat, r * wd = m1 := ⟨_, rfl⟩
  have f1 : (r : Int) * wd = m1 := by rw [← hm1]; push_cast; rfl
  obtain ⟨d1, hd1⟩ : ∃ d1 : Nat, m1 + c = d1 := ⟨_, rfl⟩
  have f2 : (m1 : Int) + x - x0 = (d1 : Int) := by omega
  have hfit := pix_bound (k := 1) l2 l1 (show 1 - 1 < 1 by omega)
  rw [← hnn] at hfit
  have hmul : r * (wd * 1) + c * 1 = d1 * 1 := by rw [← hd1, ← hm1, Nat.add_mul, Nat.mul_assoc]
  have hnb : n ≤ 131072 := by rw [hnn]; exact Nat.le_trans (Nat.mul_le_mul l4 (Nat.mul_le_mul l3 (Nat.le_refl 1))) (by omega)
  have hi0 : d1 * 1 = d1 := by omega
  rw [hmul, hi0] at hq hfit
  have hfit' : d1 + 1 ≤ n := by omega
  obtain ⟨a, hA, hb, hca⟩ := H (by omega)
  subst hA
  rcases ha : a.add d1 with ⟨ab, ao, ap⟩
  have hb' : ab < w.heap.size := by have := add_block a d1; rw [ha] at this; rw [show ab = a.block from this]; exact hb
  have K0 : w.cell? ⟨ab, ao, ap⟩ = some (.int .u8 (q 0)) := by rw [← ha, hq]; exact hca _ (by omega)
  have bq : By q := by rw [hq]; exact fun i => hp _
  have B0 := bq 0
  have E0 : cl 2 q 0 = q 0 * 257 := rfl
  have E1 : cl 2 q 1 = q 0 * 257 := rfl
  have E2 : cl 2 q 2 = q 0 * 257 := rfl
  have E3 : cl 2 q 3 = q 0 * 257 := rfl
  rw [E0, E1, E2, E3]
  clear E0 E1 E2 E3
  have g1 : (0 : Int) ≤ (d1 : Int) := by omega
  have g2 : (d1 : Int) ≤ (n : Int) := by omega
  have g3 : (d1 : Int) ≤ (cp : Int) := by omega
  have g4 : ¬ (cp = d1) := by omega
  have g5 : 1 ≤ cp - d1 := by omega
  clear hca hb hmul hm1 hd1 hi0 hq hp H hfit hnn
  go_enter Tryz.func32, Tryz.ntmps32
  go_wp2_with fail
  refine (size_c 2 (by omega) _).mono ?_
  rintro e wz ⟨he, rfl⟩
  have he : e = .returned (.int .i64 1) := he
  subst he
  go_wp2_with fail
  go_loopw [91] (fun u wr => w.grownBy wr none ∧ w.heap.size + 2 < wr.heap.size ∧ Cells4 wr (w.heap.size + 1) 0 0 0 0 ∧ ((u = .int .i64 0 ∧ Cells4 wr (w.heap.size + 2) 0 0 0 0) ∨ (u = .int .i64 1 ∧ Cells4 wr (w.heap.size + 2) (q 0 * 257) 0 0 0) ∨ (u = .int .i64 2 ∧ Cells4 wr (w.heap.size + 2) (q 0 * 257) (q 0 * 257) 0 0) ∨ (u = .int .i64 3 ∧ Cells4 wr (w.heap.size + 2) (q 0 * 257) (q 0 * 257) (q 0 * 257) 0) ∨ (u = .int .i64 4 ∧ Cells4 wr (w.heap.size + 2) (q 0 * 257) (q 0 * 257) (q 0 * 257) (q 0 * 257)))) (fun u _ => (4 - intOf u).toNat)
  case atStart => exact ⟨by (repeat (first | exact gb_refl _ _ | refine gb_alloc ?_ _)), by simp, ⟨by go_simp, by go_simp, by go_simp, by go_simp, by go_simp, by go_simp, by go_simp, by go_simp⟩, .inl ⟨rfl, by go_simp, by go_simp, by go_simp, by go_simp, by go_simp, by go_simp, by go_simp, by go_simp⟩⟩
  case round =>
    obtain ⟨hg, hz, ⟨z0, z1, z2, z3, Z0, Z1, Z2, Z3⟩, hrel⟩ := hrel
    have HG := hid hg
    have k0 := (gb_cell0 hg (p := ⟨ab, ao, ap⟩) hb').trans K0
    have hbr : ab < wr.heap.size := Nat.lt_of_lt_of_le hb' hg.size
    clear hg K0
    rcases hrel with ⟨rfl, c0, c1, c2, c3, C0, C1, C2, C3⟩ | ⟨rfl, c0, c1, c2, c3, C0, C1, C2, C3⟩ | ⟨rfl, c0, c1, c2, c3, C0, C1, C2, C3⟩ | ⟨rfl, c0, c1, c2, c3, C0, C1, C2, C3⟩ | ⟨rfl, c0, c1, c2, c3, C0, C1, C2, C3⟩
    · go_wp2
      first | exact ⟨⟨by (repeat (first | exact HG.out | refine gb_drew ?_ | refine gb_drewN ?_ _ | refine gb_setCell ?_ (.inr (by simp <;> omega)) _)), by go_simp, ⟨by go_simp, by go_simp, by go_simp, by go_simp, by go_simp, by go_simp, by go_simp, by go_simp⟩, .inr (.inl ⟨rfl, by go_simp, by go_simp, by go_simp, by go_simp, by go_simp, by go_simp, by go_simp, by go_simp⟩)⟩, by first | omega | (simp [intOf] <;> omega)⟩ | (go_simp; exact ⟨⟨by (repeat (first | exact HG.out | refine gb_drew ?_ | refine gb_drewN ?_ _ | refine gb_setCell ?_ (.inr (by simp <;> omega)) _)), ⟨by go_simp, by go_simp, by go_simp, by go_simp, by go_simp, by go_simp, by go_simp, by go_simp⟩, ⟨by go_simp, by go_simp, by go_simp, by go_simp, by go_simp, by go_simp, by go_simp, by go_simp⟩⟩, by first | omega | (simp [intOf] <;> omega)⟩)
    · go_wp2
      first | exact ⟨⟨by (repeat (first | exact HG.out | refine gb_drew ?_ | refine gb_drewN ?_ _ | refine gb_setCell ?_ (.inr (by simp <;> omega)) _)), by go_simp, ⟨by go_simp, by go_simp, by go_simp, by go_simp, by go_simp, by go_simp, by go_simp, by go_simp⟩, .inr (.inr (.inl ⟨rfl, by go_simp, by go_simp, by go_simp, by go_simp, by go_simp, by go_simp, by go_simp, by go_simp⟩))⟩, by first | omega | (simp [intOf] <;> omega)⟩ | (go_simp; exact ⟨⟨by (repeat (first | exact HG.out | refine gb_drew ?_ | refine gb_drewN ?_ _ | refine gb_setCell ?_ (.inr (by simp <;> omega)) _)), ⟨by go_simp, by go_simp, by go_simp, by go_simp, by go_simp, by go_simp, by go_simp, by go_simp⟩, ⟨by go_simp, by go_simp, by go_simp, by go_simp, by go_simp, by go_simp, by go_simp, by go_simp⟩⟩, by first | omega | (simp [intOf] <;> omega)⟩)
    · go_wp2
      first | exact ⟨⟨by (repeat (first | exact HG.out | refine gb_drew ?_ | refine gb_drewN ?_ _ | refine gb_setCell ?_ (.inr (by simp <;> omega)) _)), by go_simp, ⟨by go_simp, by go_simp, by go_simp, by go_simp, by go_simp, by go_simp, by go_simp, by go_simp⟩, .inr (.inr (.inr (.inl ⟨rfl, by go_simp, by go_simp, by go_simp, by go_simp, by go_simp, by go_simp, by go_simp, by go_simp⟩)))⟩, by first | omega | (simp [intOf] <;> omega)⟩ | (go_simp; exact ⟨⟨by (repeat (first | exact HG.out | refine gb_drew ?_ | refine gb_drewN ?_ _ | refine gb_setCell ?_ (.inr (by simp <;> omega)) _)), ⟨by go_simp, by go_simp, by go_simp, by go_simp, by go_simp, by go_simp, by go_simp, by go_simp⟩, ⟨by go_simp, by go_simp, by go_simp, by go_simp, by go_simp, by go_simp, by go_simp, by go_simp⟩⟩, by first | omega | (simp [intOf] <;> omega)⟩)
    · go_wp2
      first | exact ⟨⟨by (repeat (first | exact HG.out | refine gb_drew ?_ | refine gb_drewN ?_ _ | refine gb_setCell ?_ (.inr (by simp <;> omega)) _)), by go_simp, ⟨by go_simp, by go_simp, by go_simp, by go_simp, by go_simp, by go_simp, by go_simp, by go_simp⟩, .inr (.inr (.inr (.inr (⟨rfl, by go_simp, by go_simp, by go_simp, by go_simp, by go_simp, by go_simp, by go_simp, by go_simp⟩))))⟩, by first | omega | (simp [intOf] <;> omega)⟩ | (go_simp; exact ⟨⟨by (repeat (first | exact HG.out | refine gb_drew ?_ | refine gb_drewN ?_ _ | refine gb_setCell ?_ (.inr (by simp <;> omega)) _)), ⟨by go_simp, by go_simp, by go_simp, by go_simp, by go_simp, by go_simp, by go_simp, by go_simp⟩, ⟨by go_simp, by go_simp, by go_simp, by go_simp, by go_simp, by go_simp, by go_simp, by go_simp⟩⟩, by first | omega | (simp [intOf] <;> omega)⟩)
    · go_wp2
      exact bodyPost_ret (v := v4i (q 0 * 257) (q 0 * 257) (q 0 * 257) (q 0 * 257)) (by simp [results, Tryz.results32, go_sem, z0, z1, z2, z3]) rfl ⟨rfl, by (repeat (first | exact HG.out | refine gb_drew ?_ | refine gb_drewN ?_ _ | refine gb_setCell ?_ (.inr (by simp <;> omega)) _))⟩

set_option maxRecDepth 100000 in
set_option maxHeartbeats 8000000 in
theorem at_3 {r c wd h n cp : Nat} {x0 y0 x1 y1 x y : Int} {A : Option Addr} {p q : Nat → Int} (w : World) (H : Rd w A n p) (hp : By p) (hn : n ≤ cp) (hc : cp ≤ 9223372036854775807)
    (e1 : x - x0 = c) (e2 : y - y0 = r) (e3 : x1 - x0 = wd) (l1 : c < wd) (l2 : r < h) (hnn : n = h * (wd * 1)) (l3 : wd ≤ 128) (l4 : h ≤ 128) (v1 : -5000 ≤ x0 ∧ x0 ≤ 5000) (v2 : -5000 ≤ y0 ∧ y0 ≤ 5000) (hq : q = fun ch => p (r * (wd * 1) + c * 1 + ch)) :
    Calls Tryz.prog 32 #[vI 3 x0 y0 x1 y1 A n cp, .int .i64 x, .int .i64 y] w fun e w' => e = .returned (v4i (cl 3 q 0) (cl 3 q 1) (cl 3 q 2) (cl 3 q 3)) ∧ w.grownBy w' none := by
  obtain ⟨m1, hm1⟩ : ∃ m1 : Nat, r * wd = m1 := ⟨_, rfl⟩
  have f1 : (r : Int) * wd = m1 := by rw [← hm1]; push_cast; rfl
  obtain ⟨d1, hd1⟩ : ∃ d1 : Nat, m1 + c = d1 := ⟨_, rfl⟩
  have f2 : (m1 : Int) + x - x0 = (d1 : Int) := by omega
  have hfit := pix_bound (k := 1) l2 l1 (show 1 - 1 < 1 by omega)
  rw [← hnn] at hfit
  have hmul : r * (wd * 1) + c * 1 = d1 * 1 := by rw [← hd1, ← hm1, Nat.add_mul, Nat.mul_assoc]
  have hnb : n ≤ 131072 := by rw [hnn]; exact Nat.le_trans (Nat.mul_le_mul l4 (Nat.mul_le_mul l3 (Nat.le_refl 1))) (by omega)
  have hi0 : d1 * 1 = d1 := by omega
  rw [hmul, hi0] at hq hfit
  have hfit' : d1 + 1 ≤ n := by omega
  obtain ⟨a, hA, hb, hca⟩ := H (by omega)
  subst hA
  rcases ha : a.add d1 with ⟨ab, ao, ap⟩
  have hb' : ab < w.heap.size := by have := add_block a d1; rw [ha] at this; rw [show ab = a.block from this]; exact hb
  have K0 : w.cell? ⟨ab, ao, ap⟩ = some (.int .u8 (q 0)) := by rw [← ha, hq]; exact hca _ (by omega)
  have bq : By q := by rw [hq]; exact fun i => hp _
  have B0 := bq 0
  have E0 : cl 3 q 0 = q 0 * 257 := by rw [cl3, if_neg (by omega)]
  have E1 : cl 3 q 1 = q 0 * 257 := by rw [cl3, if_neg (by omega)]
  have E2 : cl 3 q 2 = q 0 * 257 := by rw [cl3, if_neg (by omega)]
  have E3 : cl 3 q 3 = 65535 := by rw [cl3, if_pos rfl]
  rw [E0, E1, E2, E3]
  clear E0 E1 E2 E3
  have g1 : (0 : Int) ≤ (d1 : Int) := by omega
  have g2 : (d1 : Int) ≤ (n : Int) := by omega
  have g3 : (d1 : Int) ≤ (cp : Int) := by omega
  have g4 : ¬ (cp = d1) := by omega
  have g5 : 1 ≤ cp - d1 := by omega
  clear hca hb hmul hm1 hd1 hi0 hq hp H hfit hnn
  go_enter Tryz.func32, Tryz.ntmps32
  go_wp2_with fail
  refine (size_c 3 (by omega) _).mono ?_
  rintro e wz ⟨he, rfl⟩
  have he : e = .returned (.int .i64 1) := he
  subst he
  go_wp2_with fail
  go_loopw [104] (fun u wr => w.grownBy wr none ∧ w.heap.size + 2 < wr.heap.size ∧ Cells4 wr (w.heap.size + 1) 0 0 0 0 ∧ ((u = .int .i64 0 ∧ Cells4 wr (w.heap.size + 2) 0 0 0 0) ∨ (u = .int .i64 1 ∧ Cells4 wr (w.heap.size + 2) (q 0 * 257) 0 0 0) ∨ (u = .int .i64 2 ∧ Cells4 wr (w.heap.size + 2) (q 0 * 257) (q 0 * 257) 0 0) ∨ (u = .int .i64 3 ∧ Cells4 wr (w.heap.size + 2) (q 0 * 257) (q 0 * 257) (q 0 * 257) 0))) (fun u _ => (3 - intOf u).toNat)
  case atStart => exact ⟨by (repeat (first | exact gb_refl _ _ | refine gb_alloc ?_ _)), by simp, ⟨by go_simp, by go_simp, by go_simp, by go_simp, by go_simp, by go_simp, by go_simp, by go_simp⟩, .inl ⟨rfl, by go_simp, by go_simp, by go_simp, by go_simp, by go_simp, by go_simp, by go_simp, by go_simp⟩⟩
  case round =>
    obtain ⟨hg, hz, ⟨z0, z1, z2, z3, Z0, Z1, Z2, Z3⟩, hrel⟩ := hrel
    have HG := hid hg
    have k0 := (gb_cell0 hg (p := ⟨ab, ao, ap⟩) hb').trans K0
    have hbr : ab < wr.heap.size := Nat.lt_of_lt_of_le hb' hg.size
    clear hg K0
    rcases hrel with ⟨rfl, c0, c1, c2, c3, C0, C1, C2, C3⟩ | ⟨rfl, c0, c1, c2, c3, C0, C1, C2, C3⟩ | ⟨rfl, c0, c1, c2, c3, C0, C1, C2, C3⟩ | ⟨rfl, c0, c1, c2, c3, C0, C1, C2, C3⟩
    · go_wp2
      first | exact ⟨⟨by (repeat (first | exact HG.out | refine gb_drew ?_ | refine gb_drewN ?_ _ | refine gb_setCell ?_ (.inr (by simp <;> omega)) _)), by go_simp, ⟨by go_simp, by go_simp, by go_simp, by go_simp, by go_simp, by go_simp, by go_simp, by go_simp⟩, .inr (.inl ⟨rfl, by go_simp, by go_simp, by go_simp, by go_simp, by go_simp, by go_simp, by go_simp, by go_simp⟩)⟩, by first | omega | (simp [intOf] <;> omega)⟩ | (go_simp; exact ⟨⟨by (repeat (first | exact HG.out | refine gb_drew ?_ | refine gb_drewN ?_ _ | refine gb_setCell ?_ (.inr (by simp <;> omega)) _)), ⟨by go_simp, by go_simp, by go_simp, by go_simp, by go_simp, by go_simp, by go_simp, by go_simp⟩, ⟨by go_simp, by go_simp, by go_simp, by go_simp, by go_simp, by go_simp, by go_simp, by go_simp⟩⟩, by first | omega | (simp [intOf] <;> omega)⟩)
    · go_wp2
      first | exact ⟨⟨by (repeat (first | exact HG.out | refine gb_drew ?_ | refine gb_drewN ?_ _ | refine gb_setCell ?_ (.inr (by simp <;> omega)) _)), by go_simp, ⟨by go_simp, by go_simp, by go_simp, by go_simp, by go_simp, by go_simp, by go_simp, by go_simp⟩, .inr (.inr (.inl ⟨rfl, by go_simp, by go_simp, by go_simp, by go_simp, by go_simp, by go_simp, by go_simp, by go_simp⟩))⟩, by first | omega | (simp [intOf] <;> omega)⟩ | (go_simp; exact ⟨⟨by (repeat (first | exact HG.out | refine gb_drew ?_ | refine gb_drewN ?_ _ | refine gb_setCell ?_ (.inr (by simp <;> omega)) _)), ⟨by go_simp, by go_simp, by go_simp, by go_simp, by go_simp, by go_simp, by go_simp, by go_simp⟩, ⟨by go_simp, by go_simp, by go_simp, by go_simp, by go_simp, by go_simp, by go_simp, by go_simp⟩⟩, by first | omega | (simp [intOf] <;> omega)⟩)
    · go_wp2
      first | exact ⟨⟨by (repeat (first | exact HG.out | refine gb_drew ?_ | refine gb_drewN ?_ _ | refine gb_setCell ?_ (.inr (by simp <;> omega)) _)), by go_simp, ⟨by go_simp, by go_simp, by go_simp, by go_simp, by go_simp, by go_simp, by go_simp, by go_simp⟩, .inr (.inr (.inr (⟨rfl, by go_simp, by go_simp, by go_simp, by go_simp, by go_simp, by go_simp, by go_simp, by go_simp⟩)))⟩, by first | omega | (simp [intOf] <;> omega)⟩ | (go_simp; exact ⟨⟨by (repeat (first | exact HG.out | refine gb_drew ?_ | refine gb_drewN ?_ _ | refine gb_setCell ?_ (.inr (by simp <;> omega)) _)), ⟨by go_simp, by go_simp, by go_simp, by go_simp, by go_simp, by go_simp, by go_simp, by go_simp⟩, ⟨by go_simp, by go_simp, by go_simp, by go_simp, by go_simp, by go_simp, by go_simp, by go_simp⟩⟩, by first | omega | (simp [intOf] <;> omega)⟩)
    · go_wp2
      exact bodyPost_ret (v := v4i (q 0 * 257) (q 0 * 257) (q 0 * 257) (65535)) (by simp [results, Tryz.results32, go_sem, z0, z1, z2, z3]) rfl ⟨rfl, by (repeat (first | exact HG.out | refine gb_drew ?_ | refine gb_drewN ?_ _ | refine gb_setCell ?_ (.inr (by simp <;> omega)) _))⟩

set_option maxRecDepth 100000 in
set_option maxHeartbeats 8000000 in
theorem at_4 {r c wd h n cp : Nat} {x0 y0 x1 y1 x y : Int} {A : Option Addr} {p q : Nat → Int} (w : World) (H : Rd w A n p) (hp : By p) (hn : n ≤ cp) (hc : cp ≤ 9223372036854775807)
    (e1 : x - x0 = c) (e2 : y - y0 = r) (e3 : x1 - x0 = wd) (l1 : c < wd) (l2 : r < h) (hnn : n = h * (wd * 8)) (l3 : wd ≤ 128) (l4 : h ≤ 128) (v1 : -5000 ≤ x0 ∧ x0 ≤ 5000) (v2 : -5000 ≤ y0 ∧ y0 ≤ 5000) (hq : q = fun ch => p (r * (wd * 8) + c * 8 + ch)) :
    Calls Tryz.prog 32 #[vI 4 x0 y0 x1 y1 A n cp, .int .i64 x, .int .i64 y] w fun e w' => e = .returned (v4i (cl 4 q 0) (cl 4 q 1) (cl 4 q 2) (cl 4 q 3)) ∧ w.grownBy w' none := by
  obtain ⟨m1, hm1⟩ : ∃ m1 : Nat, r * wd = m1 := ⟨_, rfl⟩
  have f1 : (r : Int) * wd = m1 := by rw [← hm1]; push_cast; rfl
  obtain ⟨d1, hd1⟩ : ∃ d1 : Nat, m1 + c = d1 := ⟨_, rfl⟩
  have f2 : (m1 : Int) + x - x0 = (d1 : Int) := by omega
  have hfit := pix_bound (k := 8) l2 l1 (show 8 - 1 < 8 by omega)
  rw [← hnn] at hfit
  have hmul : r * (wd * 8) + c * 8 = d1 * 8 := by rw [← hd1, ← hm1, Nat.add_mul, Nat.mul_assoc]
  have hnb : n ≤ 131072 := by rw [hnn]; exact Nat.le_trans (Nat.mul_le_mul l4 (Nat.mul_le_mul l3 (Nat.le_refl 8))) (by omega)
  obtain ⟨i0, hi0⟩ : ∃ i0 : Nat, d1 * 8 = i0 := ⟨_, rfl⟩
  have f3 : (8 : Int) * (d1 : Int) = (i0 : Int) := by omega
  rw [hmul, hi0] at hq hfit
  have hfit' : i0 + 8 ≤ n := by omega
  obtain ⟨a, hA, hb, hca⟩ := H (by omega)
  subst hA
  rcases ha : a.add i0 with ⟨ab, ao, ap⟩
  have hb' : ab < w.heap.size := by have := add_block a i0; rw [ha] at this; rw [show ab = a.block from this]; exact hb
  have K0 : w.cell? ⟨ab, ao, ap⟩ = some (.int .u8 (q 0)) := by rw [← ha, hq]; exact hca _ (by omega)
  have K1 : w.cell? ⟨ab, ao + 1, none⟩ = some (.int .u8 (q 1)) := by rw [hq]; exact cell_add ha hca 1 (by omega) (by omega)
  have K2 : w.cell? ⟨ab, ao + 2, none⟩ = some (.int .u8 (q 2)) := by rw [hq]; exact cell_add ha hca 2 (by omega) (by omega)
  have K3 : w.cell? ⟨ab, ao + 3, none⟩ = some (.int .u8 (q 3)) := by rw [hq]; exact cell_add ha hca 3 (by omega) (by omega)
  have K4 : w.cell? ⟨ab, ao + 4, none⟩ = some (.int .u8 (q 4)) := by rw [hq]; exact cell_add ha hca 4 (by omega) (by omega)
  have K5 : w.cell? ⟨ab, ao + 5, none⟩ = some (.int .u8 (q 5)) := by rw [hq]; exact cell_add ha hca 5 (by omega) (by omega)
  have K6 : w.cell? ⟨ab, ao + 6, none⟩ = some (.int .u8 (q 6)) := by rw [hq]; exact cell_add ha hca 6 (by omega) (by omega)
  have K7 : w.cell? ⟨ab, ao + 7, none⟩ = some (.int .u8 (q 7)) := by rw [hq]; exact cell_add ha hca 7 (by omega) (by omega)
  have bq : By q := by rw [hq]; exact fun i => hp _
  have g1 : (0 : Int) ≤ (i0 : Int) := by omega
  have g2 : (i0 : Int) ≤ (n : Int) := by omega
  have g3 : (i0 : Int) ≤ (cp : Int) := by omega
  have g4 : ¬ (cp = i0) := by omega
  have g5 : 8 ≤ cp - i0 := by omega
  clear hca hb hmul hm1 hd1 hi0 hq hp H hfit hnn
  go_enter Tryz.func32, Tryz.ntmps32
  go_wp2_with fail
  refine (size_c 4 (by omega) _).mono ?_
  rintro e wz ⟨he, rfl⟩
  have he : e = .returned (.int .i64 8) := he
  subst he
  go_wp2_with fail
  refine (wide_c (p := q) _ bq (fun i hi => ?_)).mono ?_
  · rcases Nat.eq_zero_or_pos i with e | e
    · subst e
      have : (⟨ab, ao, ap⟩ : Addr).add 0 = ⟨ab, ao, ap⟩ := by unfold Addr.add; simp
      rw [this]; exact (gb_cell0 (a := w) (gb_alloc (gb_alloc (gb_alloc (gb_refl _ _) _) _) _) hb').trans K0
    · have e' : (⟨ab, ao, ap⟩ : Addr).add i = ⟨ab, ao + i, none⟩ := by unfold Addr.add; rw [if_neg (by omega)]
      rw [e']
      refine (gb_cell0 (a := w) (gb_alloc (gb_alloc (gb_alloc (gb_refl _ _) _) _) _) hb').trans ?_
      have : i = 1 ∨ i = 2 ∨ i = 3 ∨ i = 4 ∨ i = 5 ∨ i = 6 ∨ i = 7 := by omega
      rcases this with rfl | rfl | rfl | rfl | rfl | rfl | rfl
      · exact K1
      · exact K2
      · exact K3
      · exact K4
      · exact K5
      · exact K6
      · exact K7
  rintro e w2 ⟨rfl, hg⟩
  obtain ⟨cc, ff⟩ := gb_rules hg
  have z6 : w.heap.size + 1 < w2.heap.size := by have := hg.size; simp at this; omega
  have c0 : w2.cell? ⟨w.heap.size + 1, 0, none⟩ = some (.int .i64 0) := (cc _ _ (by simp)).trans (by go_simp)
  have c1 : w2.cell? ⟨w.heap.size + 1, 1, none⟩ = some (.int .i64 0) := (cc _ _ (by simp)).trans (by go_simp)
  have c2 : w2.cell? ⟨w.heap.size + 1, 2, none⟩ = some (.int .i64 0) := (cc _ _ (by simp)).trans (by go_simp)
  have c3 : w2.cell? ⟨w.heap.size + 1, 3, none⟩ = some (.int .i64 0) := (cc _ _ (by simp)).trans (by go_simp)
  have C0 : w2.frozen? ⟨w.heap.size + 1, 0, none⟩ = false := (ff _ _ (by simp)).trans (by go_simp)
  have C1 : w2.frozen? ⟨w.heap.size + 1, 1, none⟩ = false := (ff _ _ (by simp)).trans (by go_simp)
  have C2 : w2.frozen? ⟨w.heap.size + 1, 2, none⟩ = false := (ff _ _ (by simp)).trans (by go_simp)
  have C3 : w2.frozen? ⟨w.heap.size + 1, 3, none⟩ = false := (ff _ _ (by simp)).trans (by go_simp)
  have HG := hid (gb_trans (gb_alloc (gb_alloc (gb_alloc (gb_refl w none) _) _) _) hg)
  clear hg cc ff K0 K1 K2 K3 K4 K5 K6 K7
  go_wp2
  exact bodyPost_ret (v := v4i (cl 4 q 0) (cl 4 q 1) (cl 4 q 2) (cl 4 q 3)) (by simp [results, Tryz.results32, go_sem, c0, c1, c2, c3]; exact ⟨rfl, rfl, rfl, rfl⟩) rfl ⟨rfl, by (repeat (first | exact HG.out | refine gb_drew ?_ | refine gb_drewN ?_ _ | refine gb_setCell ?_ (.inr (by simp <;> omega)) _))⟩

set_option maxRecDepth 100000 in
set_option maxHeartbeats 8000000 in
theorem at_5 {r c wd h n cp : Nat} {x0 y0 x1 y1 x y : Int} {A : Option Addr} {p q : Nat → Int} (w : World) (H : Rd w A n p) (hp : By p) (hn : n ≤ cp) (hc : cp ≤ 9223372036854775807)
    (e1 : x - x0 = c) (e2 : y - y0 = r) (e3 : x1 - x0 = wd) (l1 : c < wd) (l2 : r < h) (hnn : n = h * (wd * 4)) (l3 : wd ≤ 128) (l4 : h ≤ 128) (v1 : -5000 ≤ x0 ∧ x0 ≤ 5000) (v2 : -5000 ≤ y0 ∧ y0 ≤ 5000) (hq : q = fun ch => p (r * (wd * 4) + c * 4 + ch)) :
    Calls Tryz.prog 32 #[vI 5 x0 y0 x1 y1 A n cp, .int .i64 x, .int .i64 y] w fun e w' => e = .returned (v4i (cl 5 q 0) (cl 5 q 1) (cl 5 q 2) (cl 5 q 3)) ∧ w.grownBy w' none := by
  obtain ⟨m1, hm1⟩ : ∃ m1 : Nat, r * wd = m1 := ⟨_, rfl⟩
  have f1 : (r : Int) * wd = m1 := by rw [← hm1]; push_cast; rfl
  obtain ⟨d1, hd1⟩ : ∃ d1 : Nat, m1 + c = d1 := ⟨_, rfl⟩
  have f2 : (m1 : Int) + x - x0 = (d1 : Int) := by omega
  have hfit := pix_bound (k := 4) l2 l1 (show 4 - 1 < 4 by omega)
  rw [← hnn] at hfit
  have hmul : r * (wd * 4) + c * 4 = d1 * 4 := by rw [← hd1, ← hm1, Nat.add_mul, Nat.mul_assoc]
  have hnb : n ≤ 131072 := by rw [hnn]; exact Nat.le_trans (Nat.mul_le_mul l4 (Nat.mul_le_mul l3 (Nat.le_refl 4))) (by omega)
  obtain ⟨i0, hi0⟩ : ∃ i0 : Nat, d1 * 4 = i0 := ⟨_, rfl⟩
  have f3 : (4 : Int) * (d1 : Int) = (i0 : Int) := by omega
  rw [hmul, hi0] at hq hfit
  have hfit' : i0 + 4 ≤ n := by omega
  obtain ⟨a, hA, hb, hca⟩ := H (by omega)
  subst hA
  rcases ha : a.add i0 with ⟨ab, ao, ap⟩
  have hb' : ab < w.heap.size := by have := add_block a i0; rw [ha] at this; rw [show ab = a.block from this]; exact hb
  have K0 : w.cell? ⟨ab, ao, ap⟩ = some (.int .u8 (q 0)) := by rw [← ha, hq]; exact hca _ (by omega)
  have K1 : w.cell? ⟨ab, ao + 1, none⟩ = some (.int .u8 (q 1)) := by rw [hq]; exact cell_add ha hca 1 (by omega) (by omega)
  have K2 : w.cell? ⟨ab, ao + 2, none⟩ = some (.int .u8 (q 2)) := by rw [hq]; exact cell_add ha hca 2 (by omega) (by omega)
  have K3 : w.cell? ⟨ab, ao + 3, none⟩ = some (.int .u8 (q 3)) := by rw [hq]; exact cell_add ha hca 3 (by omega) (by omega)
  have bq : By q := by rw [hq]; exact fun i => hp _
  have B0 := bq 0
  have B1 := bq 1
  have B2 := bq 2
  have B3 := bq 3
  obtain ⟨P0, hP0⟩ : ∃ P, (65535 - q 0 * 257) * (65535 - q 3 * 257) = P := ⟨_, rfl⟩
  have bP0 := cmy B0 B3
  rw [hP0] at bP0
  obtain ⟨P1, hP1⟩ : ∃ P, (65535 - q 1 * 257) * (65535 - q 3 * 257) = P := ⟨_, rfl⟩
  have bP1 := cmy B1 B3
  rw [hP1] at bP1
  obtain ⟨P2, hP2⟩ : ∃ P, (65535 - q 2 * 257) * (65535 - q 3 * 257) = P := ⟨_, rfl⟩
  have bP2 := cmy B2 B3
  rw [hP2] at bP2
  have hb1 : ab < w.heap.size + 1 := by omega
  have hb2 : ab < w.heap.size + 1 + 1 := by omega
  have hb3 : ab ≠ w.heap.size := by omega
  have hb4 : ab ≠ w.heap.size + 1 := by omega
  have hb5 : ab ≠ w.heap.size + 1 + 1 := by omega
  have E0 : cl 5 q 0 = P0 / 65535 := by rw [cl5, if_neg (by omega), hP0]
  have E1 : cl 5 q 1 = P1 / 65535 := by rw [cl5, if_neg (by omega), hP1]
  have E2 : cl 5 q 2 = P2 / 65535 := by rw [cl5, if_neg (by omega), hP2]
  have E3 : cl 5 q 3 = 65535 := by rw [cl5, if_pos rfl]
  rw [E0, E1, E2, E3]
  clear E0 E1 E2 E3
  have g1 : (0 : Int) ≤ (i0 : Int) := by omega
  have g2 : (i0 : Int) ≤ (n : Int) := by omega
  have g3 : (i0 : Int) ≤ (cp : Int) := by omega
  have g4 : ¬ (cp = i0) := by omega
  have g5 : 4 ≤ cp - i0 := by omega
  clear hca hb hmul hm1 hd1 hi0 hq hp H hfit hnn
  go_enter Tryz.func32, Tryz.ntmps32
  go_wp2_with fail
  refine (size_c 5 (by omega) _).mono ?_
  rintro e wz ⟨he, rfl⟩
  have he : e = .returned (.int .i64 4) := he
  subst he
  go_wp2_with fail
  go_loopw [128] (fun u wr => w.grownBy wr none ∧ w.heap.size + 2 < wr.heap.size ∧ Cells4 wr (w.heap.size + 1) 0 0 0 0 ∧ ((u = .int .i64 0 ∧ Cells4 wr (w.heap.size + 2) 0 0 0 0) ∨ (u = .int .i64 1 ∧ Cells4 wr (w.heap.size + 2) (P0 / 65535) 0 0 0) ∨ (u = .int .i64 2 ∧ Cells4 wr (w.heap.size + 2) (P0 / 65535) (P1 / 65535) 0 0) ∨ (u = .int .i64 3 ∧ Cells4 wr (w.heap.size + 2) (P0 / 65535) (P1 / 65535) (P2 / 65535) 0))) (fun u _ => (3 - intOf u).toNat)
  case atStart => exact ⟨by (repeat (first | exact gb_refl _ _ | refine gb_alloc ?_ _)), by simp, ⟨by go_simp, by go_simp, by go_simp, by go_simp, by go_simp, by go_simp, by go_simp, by go_simp⟩, .inl ⟨rfl, by go_simp, by go_simp, by go_simp, by go_simp, by go_simp, by go_simp, by go_simp, by go_simp⟩⟩
  case round =>
    obtain ⟨hg, hz, ⟨z0, z1, z2, z3, Z0, Z1, Z2, Z3⟩, hrel⟩ := hrel
    have HG := hid hg
    have k0 := (gb_cell0 hg (p := ⟨ab, ao, ap⟩) hb').trans K0
    have k1 := (gb_cell0 hg (p := ⟨ab, ao + 1, none⟩) hb').trans K1
    have k2 := (gb_cell0 hg (p := ⟨ab, ao + 2, none⟩) hb').trans K2
    have k3 := (gb_cell0 hg (p := ⟨ab, ao + 3, none⟩) hb').trans K3
    have hbr : ab < wr.heap.size := Nat.lt_of_lt_of_le hb' hg.size
    clear hg K0 K1 K2 K3
    rcases hrel with ⟨rfl, c0, c1, c2, c3, C0, C1, C2, C3⟩ | ⟨rfl, c0, c1, c2, c3, C0, C1, C2, C3⟩ | ⟨rfl, c0, c1, c2, c3, C0, C1, C2, C3⟩ | ⟨rfl, c0, c1, c2, c3, C0, C1, C2, C3⟩
    · go_wp2
      first | exact ⟨⟨by (repeat (first | exact HG.out | refine gb_drew ?_ | refine gb_drewN ?_ _ | refine gb_setCell ?_ (.inr (by simp <;> omega)) _)), by go_simp, ⟨by go_simp, by go_simp, by go_simp, by go_simp, by go_simp, by go_simp, by go_simp, by go_simp⟩, .inr (.inl ⟨rfl, by go_simp, by go_simp, by go_simp, by go_simp, by go_simp, by go_simp, by go_simp, by go_simp⟩)⟩, by first | omega | (simp [intOf] <;> omega)⟩ | (go_simp; exact ⟨⟨by (repeat (first | exact HG.out | refine gb_drew ?_ | refine gb_drewN ?_ _ | refine gb_setCell ?_ (.inr (by simp <;> omega)) _)), ⟨by go_simp, by go_simp, by go_simp, by go_simp, by go_simp, by go_simp, by go_simp, by go_simp⟩, ⟨by go_simp, by go_simp, by go_simp, by go_simp, by go_simp, by go_simp, by go_simp, by go_simp⟩⟩, by first | omega | (simp [intOf] <;> omega)⟩)
    · go_wp2
      first | exact ⟨⟨by (repeat (first | exact HG.out | refine gb_drew ?_ | refine gb_drewN ?_ _ | refine gb_setCell ?_ (.inr (by simp <;> omega)) _)), by go_simp, ⟨by go_simp, by go_simp, by go_simp, by go_simp, by go_simp, by go_simp, by go_simp, by go_simp⟩, .inr (.inr (.inl ⟨rfl, by go_simp, by go_simp, by go_simp, by go_simp, by go_simp, by go_simp, by go_simp, by go_simp⟩))⟩, by first | omega | (simp [intOf] <;> omega)⟩ | (go_simp; exact ⟨⟨by (repeat (first | exact HG.out | refine gb_drew ?_ | refine gb_drewN ?_ _ | refine gb_setCell ?_ (.inr (by simp <;> omega)) _)), ⟨by go_simp, by go_simp, by go_simp, by go_simp, by go_simp, by go_simp, by go_simp, by go_simp⟩, ⟨by go_simp, by go_simp, by go_simp, by go_simp, by go_simp, by go_simp, by go_simp, by go_simp⟩⟩, by first | omega | (simp [intOf] <;> omega)⟩)
    · go_wp2
      first | exact ⟨⟨by (repeat (first | exact HG.out | refine gb_drew ?_ | refine gb_drewN ?_ _ | refine gb_setCell ?_ (.inr (by simp <;> omega)) _)), by go_simp, ⟨by go_simp, by go_simp, by go_simp, by go_simp, by go_simp, by go_simp, by go_simp, by go_simp⟩, .inr (.inr (.inr (⟨rfl, by go_simp, by go_simp, by go_simp, by go_simp, by go_simp, by go_simp, by go_simp, by go_simp⟩)))⟩, by first | omega | (simp [intOf] <;> omega)⟩ | (go_simp; exact ⟨⟨by (repeat (first | exact HG.out | refine gb_drew ?_ | refine gb_drewN ?_ _ | refine gb_setCell ?_ (.inr (by simp <;> omega)) _)), ⟨by go_simp, by go_simp, by go_simp, by go_simp, by go_simp, by go_simp, by go_simp, by go_simp⟩, ⟨by go_simp, by go_simp, by go_simp, by go_simp, by go_simp, by go_simp, by go_simp, by go_simp⟩⟩, by first | omega | (simp [intOf] <;> omega)⟩)
    · go_wp2
      exact bodyPost_ret (v := v4i (P0 / 65535) (P1 / 65535) (P2 / 65535) (65535)) (by simp [results, Tryz.results32, go_sem, z0, z1, z2, z3]) rfl ⟨rfl, by (repeat (first | exact HG.out | refine gb_drew ?_ | refine gb_drewN ?_ _ | refine gb_setCell ?_ (.inr (by simp <;> omega)) _))⟩

set_option maxRecDepth 100000 in
set_option maxHeartbeats 8000000 in
theorem at_6 {cp : Nat} {x0 y0 x1 y1 x y : Int} {A : Option Addr} {q : Nat → Int} (w : World) (H : Rd w A 8 q) (hp : By q) :
    Calls Tryz.prog 32 #[vI 6 x0 y0 x1 y1 A 8 cp, .int .i64 x, .int .i64 y] w fun e w' => e = .returned (v4i (cl 6 q 0) (cl 6 q 1) (cl 6 q 2) (cl 6 q 3)) ∧ w.grownBy w' none := by
  obtain ⟨a, hA, hb, hca⟩ := H (by omega)
  subst hA
  have HB := hid hb
  have HCa := hid hca
  clear H hb hca
  go_enter Tryz.func32, Tryz.ntmps32
  go_wp2_with fail
  refine (wide_c (p := q) _ hp (fun i hi => (gb_cell0 (a := w) (gb_alloc (gb_alloc (gb_refl _ _) _) _) (by rw [add_block]; exact HB.out)).trans (HCa.out i hi))).mono ?_
  rintro e w2 ⟨rfl, hg⟩
  obtain ⟨cc, ff⟩ := gb_rules hg
  have z6 : w.heap.size + 1 < w2.heap.size := by have := hg.size; simp at this; omega
  have c0 : w2.cell? ⟨w.heap.size + 1, 0, none⟩ = some (.int .i64 0) := (cc _ _ (by simp)).trans (by go_simp)
  have c1 : w2.cell? ⟨w.heap.size + 1, 1, none⟩ = some (.int .i64 0) := (cc _ _ (by simp)).trans (by go_simp)
  have c2 : w2.cell? ⟨w.heap.size + 1, 2, none⟩ = some (.int .i64 0) := (cc _ _ (by simp)).trans (by go_simp)
  have c3 : w2.cell? ⟨w.heap.size + 1, 3, none⟩ = some (.int .i64 0) := (cc _ _ (by simp)).trans (by go_simp)
  have C0 : w2.frozen? ⟨w.heap.size + 1, 0, none⟩ = false := (ff _ _ (by simp)).trans (by go_simp)
  have C1 : w2.frozen? ⟨w.heap.size + 1, 1, none⟩ = false := (ff _ _ (by simp)).trans (by go_simp)
  have C2 : w2.frozen? ⟨w.heap.size + 1, 2, none⟩ = false := (ff _ _ (by simp)).trans (by go_simp)
  have C3 : w2.frozen? ⟨w.heap.size + 1, 3, none⟩ = false := (ff _ _ (by simp)).trans (by go_simp)
  have HG := hid (gb_trans (gb_alloc (gb_alloc (gb_refl w none) _) _) hg)
  clear hg cc ff
  go_wp2
  exact bodyPost_ret (v := v4i (cl 6 q 0) (cl 6 q 1) (cl 6 q 2) (cl 6 q 3)) (by simp [results, Tryz.results32, go_sem, c0, c1, c2, c3]; exact ⟨rfl, rfl, rfl, rfl⟩) rfl ⟨rfl, by (repeat (first | exact HG.out | refine gb_drew ?_ | refine gb_drewN ?_ _ | refine gb_setCell ?_ (.inr (by simp <;> omega)) _))⟩
end Go.Proofs.YtgjpohmjkhgpfaaGreat
