/- What clip leaves, in plain numbers: which pixels are drawn, and where they lie in the source. No condition. -/
import Derived.Test.YtgjpohmjkhgpfaaGreatX0
set_option linter.unusedSimpArgs false
set_option linter.unusedVariables false
namespace Go.Proofs.YtgjpohmjkhgpfaaGreat
open Go.RowKit

theorem emp_t {a b c d : Int} : emp a b c d = true ↔ (c ≤ a ∨ d ≤ b) := by unfold emp; simp
theorem emp_f {a b c d : Int} : emp a b c d = false ↔ (a < c ∧ b < d) := by unfold emp; simp
theorem ia_t {x0 y0 x1 y1 u0 v0 u1 v1 : Int} (h : emp (max x0 u0) (max y0 v0) (min x1 u1) (min y1 v1) = true) (i : Nat) : ia i x0 y0 x1 y1 u0 v0 u1 v1 = 0 := by
  unfold ia; rw [hi2_eq, hi2_eq, lo2_eq, lo2_eq, h]; rfl
theorem ia_f {x0 y0 x1 y1 u0 v0 u1 v1 : Int} (h : emp (max x0 u0) (max y0 v0) (min x1 u1) (min y1 v1) = false) :
    ia 0 x0 y0 x1 y1 u0 v0 u1 v1 = max x0 u0 ∧ ia 1 x0 y0 x1 y1 u0 v0 u1 v1 = max y0 v0 ∧ ia 2 x0 y0 x1 y1 u0 v0 u1 v1 = min x1 u1 ∧ ia 3 x0 y0 x1 y1 u0 v0 u1 v1 = min y1 v1 := by
  refine ⟨?_, ?_, ?_, ?_⟩ <;> (unfold ia; simp only [hi2_eq, lo2_eq, h, cond_false])
/-- the pixel (r, c) of the destination is drawn -/
def In0 (x0 y0 x1 y1 px py dx0 dy0 sx0 sy0 : Int) (sh sw r c : Nat) : Prop :=
  (x0 ≤ dx0 + c ∧ dx0 + c < x1 ∧ y0 ≤ dy0 + r ∧ dy0 + r < y1) ∧ sx0 ≤ dx0 + c + (px - x0) ∧ dx0 + c + (px - x0) < sx0 + sw ∧ sy0 ≤ dy0 + r + (py - y0) ∧ dy0 + r + (py - y0) < sy0 + sh
set_option maxHeartbeats 2000000 in
theorem cut2 {x0 y0 x1 y1 d0 d1 d2 d3 s0 s1 s2 s3 b0 b1 b2 b3 : Int}
    (h0 : ia 0 (ia 0 x0 y0 x1 y1 d0 d1 d2 d3) (ia 1 x0 y0 x1 y1 d0 d1 d2 d3) (ia 2 x0 y0 x1 y1 d0 d1 d2 d3) (ia 3 x0 y0 x1 y1 d0 d1 d2 d3) s0 s1 s2 s3 = b0)
    (h1 : ia 1 (ia 0 x0 y0 x1 y1 d0 d1 d2 d3) (ia 1 x0 y0 x1 y1 d0 d1 d2 d3) (ia 2 x0 y0 x1 y1 d0 d1 d2 d3) (ia 3 x0 y0 x1 y1 d0 d1 d2 d3) s0 s1 s2 s3 = b1)
    (h2 : ia 2 (ia 0 x0 y0 x1 y1 d0 d1 d2 d3) (ia 1 x0 y0 x1 y1 d0 d1 d2 d3) (ia 2 x0 y0 x1 y1 d0 d1 d2 d3) (ia 3 x0 y0 x1 y1 d0 d1 d2 d3) s0 s1 s2 s3 = b2)
    (h3 : ia 3 (ia 0 x0 y0 x1 y1 d0 d1 d2 d3) (ia 1 x0 y0 x1 y1 d0 d1 d2 d3) (ia 2 x0 y0 x1 y1 d0 d1 d2 d3) (ia 3 x0 y0 x1 y1 d0 d1 d2 d3) s0 s1 s2 s3 = b3) :
    (emp b0 b1 b2 b3 = false → b0 = max (max x0 d0) s0 ∧ b1 = max (max y0 d1) s1 ∧ b2 = min (min x1 d2) s2 ∧ b3 = min (min y1 d3) s3) ∧
    (emp b0 b1 b2 b3 = true → min (min x1 d2) s2 ≤ max (max x0 d0) s0 ∨ min (min y1 d3) s3 ≤ max (max y0 d1) s1) := by
  cases e1 : emp (max x0 d0) (max y0 d1) (min x1 d2) (min y1 d3)
  · obtain ⟨a0, a1, a2, a3⟩ := ia_f e1
    rw [a0, a1, a2, a3] at h0 h1 h2 h3
    cases e2 : emp (max (max x0 d0) s0) (max (max y0 d1) s1) (min (min x1 d2) s2) (min (min y1 d3) s3)
    · obtain ⟨k0, k1, k2, k3⟩ := ia_f e2
      rw [k0] at h0; rw [k1] at h1; rw [k2] at h2; rw [k3] at h3
      subst h0 h1 h2 h3
      exact ⟨fun _ => ⟨rfl, rfl, rfl, rfl⟩, fun h => by rw [e2] at h; cases h⟩
    · rw [ia_t e2] at h0 h1 h2 h3
      subst h0 h1 h2 h3
      exact ⟨fun h => by rw [emp_f] at h; omega, fun _ => emp_t.1 e2⟩
  · rw [ia_t e1, ia_t e1, ia_t e1, ia_t e1] at h0 h1 h2 h3
    have e2 : emp (max 0 s0) (max 0 s1) (min 0 s2) (min 0 s3) = true := emp_t.2 (by omega)
    rw [ia_t e2] at h0 h1 h2 h3
    subst h0 h1 h2 h3
    have e3 := emp_t.1 e1
    exact ⟨fun h => by rw [emp_f] at h; omega, fun _ => by omega⟩

set_option maxHeartbeats 2000000 in
theorem cl0_geo {x0 y0 x1 y1 px py qx qy dx0 dy0 sx0 sy0 b0 b1 b2 b3 p0 p1 q0 q1 : Int} {dh dw sh sw : Nat}
    (H : Cl0 x0 y0 x1 y1 px py qx qy dx0 dy0 (dx0 + dw) (dy0 + dh) sx0 sy0 (sx0 + sw) (sy0 + sh) b0 b1 b2 b3 p0 p1 q0 q1) (hE : emp b0 b1 b2 b3 = false) :
    ∃ rx ry xe ye sx sy : Nat, Rct b0 b1 b2 b3 dx0 dy0 rx ry xe ye dh dw ∧ Plc p0 p1 sx0 sy0 sx sy rx ry xe ye sh sw ∧
      (∀ r c : Nat, r < dh → c < dw → (inR rx xe ry ye r c ↔ In0 x0 y0 x1 y1 px py dx0 dy0 sx0 sy0 sh sw r c)) ∧
      (∀ r c : Nat, inR rx xe ry ye r c → ((sy + (r - ry) : Nat) : Int) = dy0 + r + (py - y0) - sy0 ∧ ((sx + (c - rx) : Nat) : Int) = dx0 + c + (px - x0) - sx0) := by
  obtain ⟨-, ⟨h0, h1, h2, h3⟩, f1, f2, -, -⟩ := H
  obtain ⟨g0, g1, g2, g3⟩ := (cut2 h0 h1 h2 h3).1 hE
  obtain ⟨l1, l2⟩ := emp_f.1 hE
  clear h0 h1 h2 h3 hE
  have k0 : ∀ X : Int, b0 ≤ X ↔ (x0 ≤ X ∧ dx0 ≤ X ∧ sx0 + (x0 - px) ≤ X) := fun X => by rw [g0]; omega
  have k1 : ∀ X : Int, b1 ≤ X ↔ (y0 ≤ X ∧ dy0 ≤ X ∧ sy0 + (y0 - py) ≤ X) := fun X => by rw [g1]; omega
  have k2 : ∀ X : Int, X < b2 ↔ (X < x1 ∧ X < dx0 + dw ∧ X < sx0 + sw + (x0 - px)) := fun X => by rw [g2]; omega
  have k3 : ∀ X : Int, X < b3 ↔ (X < y1 ∧ X < dy0 + dh ∧ X < sy0 + sh + (y0 - py)) := fun X => by rw [g3]; omega
  clear g0 g1 g2 g3
  have a0 := (k0 b0).1 (Int.le_refl _)
  have a1 := (k1 b1).1 (Int.le_refl _)
  have a2 := (k2 (b2 - 1)).1 (by omega)
  have a3 := (k3 (b3 - 1)).1 (by omega)
  obtain ⟨rx, e0⟩ := Int.eq_ofNat_of_zero_le (show 0 ≤ b0 - dx0 by omega)
  obtain ⟨ry, e1⟩ := Int.eq_ofNat_of_zero_le (show 0 ≤ b1 - dy0 by omega)
  obtain ⟨xe, e2⟩ := Int.eq_ofNat_of_zero_le (show 0 ≤ b2 - dx0 by omega)
  obtain ⟨ye, e3⟩ := Int.eq_ofNat_of_zero_le (show 0 ≤ b3 - dy0 by omega)
  obtain ⟨sx, e4⟩ := Int.eq_ofNat_of_zero_le (show 0 ≤ p0 - sx0 by omega)
  obtain ⟨sy, e5⟩ := Int.eq_ofNat_of_zero_le (show 0 ≤ p1 - sy0 by omega)
  refine ⟨rx, ry, xe, ye, sx, sy, ⟨e0, e1, e2, e3, by omega, by omega, by omega, by omega⟩, ⟨e4, e5, by omega, by omega⟩, ?_, ?_⟩
  · intro r c hr hc
    have t0 := k0 (dx0 + c); have t1 := k1 (dy0 + r); have t2 := k2 (dx0 + c); have t3 := k3 (dy0 + r)
    clear k0 k1 k2 k3 a0 a1 a2 a3
    constructor
    · rintro ⟨i1, i2, i3, i4⟩
      have j0 := t0.1 (by omega); have j1 := t1.1 (by omega); have j2 := t2.1 (by omega); have j3 := t3.1 (by omega)
      exact ⟨⟨j0.1, j2.1, j1.1, j3.1⟩, by omega, by omega, by omega, by omega⟩
    · rintro ⟨⟨i1, i2, i3, i4⟩, i5, i6, i7, i8⟩
      have j0 := t0.2 ⟨i1, by omega, by omega⟩; have j1 := t1.2 ⟨i3, by omega, by omega⟩; have j2 := t2.2 ⟨i2, by omega, by omega⟩; have j3 := t3.2 ⟨i4, by omega, by omega⟩
      exact ⟨by omega, by omega, by omega, by omega⟩
  · rintro r c ⟨i1, i2, i3, i4⟩
    clear k0 k1 k2 k3 a0 a1 a2 a3
    constructor <;> omega
set_option maxHeartbeats 2000000 in
theorem cl0_emp {x0 y0 x1 y1 px py qx qy dx0 dy0 sx0 sy0 b0 b1 b2 b3 p0 p1 q0 q1 : Int} {dh dw sh sw : Nat}
    (H : Cl0 x0 y0 x1 y1 px py qx qy dx0 dy0 (dx0 + dw) (dy0 + dh) sx0 sy0 (sx0 + sw) (sy0 + sh) b0 b1 b2 b3 p0 p1 q0 q1) (hE : emp b0 b1 b2 b3 = true) :
    ∀ r c : Nat, r < dh → c < dw → ¬ In0 x0 y0 x1 y1 px py dx0 dy0 sx0 sy0 sh sw r c := by
  obtain ⟨-, ⟨h0, h1, h2, h3⟩, f1, f2, -, -⟩ := H
  have := (cut2 h0 h1 h2 h3).2 hE
  intro r c hr hc hI
  unfold In0 at hI
  omega
set_option maxHeartbeats 2000000 in
/-- there is a cut rectangle, whatever the numbers, if they are small -/
theorem cl0_ex {x0 y0 x1 y1 px py qx qy d0 d1 d2 d3 s0 s1 s2 s3 : Int} (m1 : sm x0) (m2 : sm y0) (m3 : sm px) (m4 : sm py) (m5 : sm qx) (m6 : sm qy) (m7 : sm s0) (m8 : sm s1) (m9 : sm s2) (m10 : sm s3)
    (m11 : sm (x0 - px)) (m12 : sm (y0 - py)) (m13 : -5000 ≤ d0 ∧ d0 ≤ 5000) (m14 : -5000 ≤ d1 ∧ d1 ≤ 5000) (m15 : -5000 ≤ d2 ∧ d2 ≤ 5000) (m16 : -5000 ≤ d3 ∧ d3 ≤ 5000) :
    ∃ b0 b1 b2 b3 p0 p1 q0 q1, Cl0 x0 y0 x1 y1 px py qx qy d0 d1 d2 d3 s0 s1 s2 s3 b0 b1 b2 b3 p0 p1 q0 q1 := by
  refine ⟨_, _, _, _, _, _, _, _, ⟨m1, m2, m3, m4, m5, m6, m7, m8, m9, m10, m11, m12, ?_, ?_⟩, ⟨rfl, rfl, rfl, rfl⟩, ⟨rfl, rfl, rfl, rfl⟩⟩
  · obtain ⟨b0, h0⟩ : ∃ b0, ia 0 (ia 0 x0 y0 x1 y1 d0 d1 d2 d3) (ia 1 x0 y0 x1 y1 d0 d1 d2 d3) (ia 2 x0 y0 x1 y1 d0 d1 d2 d3) (ia 3 x0 y0 x1 y1 d0 d1 d2 d3) (s0 + (x0 - px)) (s1 + (y0 - py)) (s2 + (x0 - px)) (s3 + (y0 - py)) = b0 := ⟨_, rfl⟩
    rw [h0]
    cases e2 : emp (max (ia 0 x0 y0 x1 y1 d0 d1 d2 d3) (s0 + (x0 - px))) (max (ia 1 x0 y0 x1 y1 d0 d1 d2 d3) (s1 + (y0 - py))) (min (ia 2 x0 y0 x1 y1 d0 d1 d2 d3) (s2 + (x0 - px))) (min (ia 3 x0 y0 x1 y1 d0 d1 d2 d3) (s3 + (y0 - py)))
    · rw [(ia_f e2).1] at h0
      cases e1 : emp (max x0 d0) (max y0 d1) (min x1 d2) (min y1 d3)
      · obtain ⟨a0, a1, a2, a3⟩ := ia_f e1
        rw [emp_f, a0, a1, a2, a3] at e2; rw [a0] at h0; rw [emp_f] at e1
        unfold sm at *; omega
      · rw [ia_t e1, ia_t e1, ia_t e1, ia_t e1, emp_f] at e2; rw [ia_t e1] at h0
        unfold sm at *; omega
    · rw [ia_t e2] at h0; subst h0; unfold sm; omega
  · obtain ⟨b0, h0⟩ : ∃ b0, ia 1 (ia 0 x0 y0 x1 y1 d0 d1 d2 d3) (ia 1 x0 y0 x1 y1 d0 d1 d2 d3) (ia 2 x0 y0 x1 y1 d0 d1 d2 d3) (ia 3 x0 y0 x1 y1 d0 d1 d2 d3) (s0 + (x0 - px)) (s1 + (y0 - py)) (s2 + (x0 - px)) (s3 + (y0 - py)) = b0 := ⟨_, rfl⟩
    rw [h0]
    cases e2 : emp (max (ia 0 x0 y0 x1 y1 d0 d1 d2 d3) (s0 + (x0 - px))) (max (ia 1 x0 y0 x1 y1 d0 d1 d2 d3) (s1 + (y0 - py))) (min (ia 2 x0 y0 x1 y1 d0 d1 d2 d3) (s2 + (x0 - px))) (min (ia 3 x0 y0 x1 y1 d0 d1 d2 d3) (s3 + (y0 - py)))
    · rw [(ia_f e2).2.1] at h0
      cases e1 : emp (max x0 d0) (max y0 d1) (min x1 d2) (min y1 d3)
      · obtain ⟨a0, a1, a2, a3⟩ := ia_f e1
        rw [emp_f, a0, a1, a2, a3] at e2; rw [a1] at h0; rw [emp_f] at e1
        unfold sm at *; omega
      · rw [ia_t e1, ia_t e1, ia_t e1, ia_t e1, emp_f] at e2; rw [ia_t e1] at h0
        unfold sm at *; omega
    · rw [ia_t e2] at h0; subst h0; unfold sm; omega
end Go.Proofs.YtgjpohmjkhgpfaaGreat
