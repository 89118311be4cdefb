/- An image in memory: its struct's block, its pixels' block, and what of it stays when other blocks change. No condition. -/
import Derived.Test.YtgjpohmjkhgpfaaGreatB
import Derived.Test.YtgjpohmjkhgpfaaGreatM
set_option linter.unusedSimpArgs false
set_option linter.unusedVariables false
namespace Go.Proofs.YtgjpohmjkhgpfaaGreat
open Go.RowKit

/-- block b is an image's struct (of type T), its pixels in block pb: h rows, wd columns, k bytes a pixel; its bounds begin at (x0, y0) -/
def Pic (w : World) (b T pb k h wd : Nat) (x0 y0 : Int) (P : Nat → Nat → Nat → Int) : Prop :=
  ∃ n cap st : Nat, w.heap[b]? = some (.cells #[.slice (some ⟨pb, 0, none⟩) n cap, .int .i64 st, .int .i64 x0, .int .i64 y0, .int .i64 (x0 + wd), .int .i64 (y0 + h)] T (0, 0)) ∧
    PixI w pb h wd k P ∧ n = h * st ∧ wd * k = st ∧ n ≤ cap ∧ cap ≤ 9223372036854775807 ∧ b ≠ pb ∧ wd ≤ 128 ∧ h ≤ 128 ∧ -3000 ≤ x0 ∧ x0 ≤ 3000 ∧ -3000 ≤ y0 ∧ y0 ≤ 3000 ∧ (∀ r c, By (P r c))

theorem Pic.kept {w w' : World} {b T pb k h wd : Nat} {x0 y0 : Int} {P : Nat → Nat → Nat → Int} (H : Pic w b T pb k h wd x0 y0 P) {pd : Nat} (hg : w.grownBy w' (some pd)) (h1 : b ≠ pd) (h2 : pb ≠ pd) :
    Pic w' b T pb k h wd x0 y0 P := by
  obtain ⟨n, cap, st, hb, hp, rest⟩ := H
  exact ⟨n, cap, st, (gb_block hg (lt_of_block hb) h1).trans hb, hp.kept (gb_block hg hp.lt h2), rest⟩
theorem Pic.drewn {w w' : World} {b T pb k h wd : Nat} {x0 y0 : Int} {P P' : Nat → Nat → Nat → Int} (H : Pic w b T pb k h wd x0 y0 P) (hg : w.grownBy w' (some pb)) (hp : PixI w' pb h wd k P')
    (hB : ∀ r c, By (P' r c)) : Pic w' b T pb k h wd x0 y0 P' := by
  obtain ⟨n, cap, st, hb, _, q1, q2, q3, q4, q5, q6, q7, q8, q9, q10, q11, _⟩ := H
  exact ⟨n, cap, st, (gb_block hg (lt_of_block hb) q5).trans hb, hp, q1, q2, q3, q4, q5, q6, q7, q8, q9, q10, q11, hB⟩
/-- its cells -/
theorem Pic.cells {w : World} {b T pb k h wd : Nat} {x0 y0 : Int} {P : Nat → Nat → Nat → Int} (H : Pic w b T pb k h wd x0 y0 P) :
    ∃ n cap st : Nat, w.cell? ⟨b, 0, none⟩ = some (.slice (some ⟨pb, 0, none⟩) n cap) ∧ w.cell? ⟨b, 1, none⟩ = some (.int .i64 st) ∧ w.cell? ⟨b, 2, none⟩ = some (.int .i64 x0) ∧ w.cell? ⟨b, 3, none⟩ = some (.int .i64 y0) ∧
      w.cell? ⟨b, 4, none⟩ = some (.int .i64 (x0 + wd)) ∧ w.cell? ⟨b, 5, none⟩ = some (.int .i64 (y0 + h)) ∧ b < w.heap.size ∧
      PixI w pb h wd k P ∧ n = h * st ∧ wd * k = st ∧ n ≤ cap ∧ cap ≤ 9223372036854775807 ∧ b ≠ pb ∧ wd ≤ 128 ∧ h ≤ 128 ∧ -3000 ≤ x0 ∧ x0 ≤ 3000 ∧ -3000 ≤ y0 ∧ y0 ≤ 3000 ∧ (∀ r c, By (P r c)) := by
  obtain ⟨n, cap, st, hb, rest⟩ := H
  exact ⟨n, cap, st, cell_at hb rfl, cell_at hb rfl, cell_at hb rfl, cell_at hb rfl, cell_at hb rfl, cell_at hb rfl, lt_of_block hb, rest⟩
/-- what a row needs: the last byte lies in the block -/
theorem row_fits {h wd k r m : Nat} (hr : r < h) (hm : m ≤ wd * k) : r * (wd * k) + m ≤ h * (wd * k) := by
  have := Nat.mul_le_mul_right (wd * k) (show r + 1 ≤ h by omega)
  rw [Nat.add_mul, Nat.one_mul] at this; omega

/-- the rectangle, against the image's bounds -/
def Rct (x0 y0 x1 y1 dx0 dy0 : Int) (rx ry xe ye h wd : Nat) : Prop :=
  x0 - dx0 = rx ∧ y0 - dy0 = ry ∧ x1 - dx0 = xe ∧ y1 - dy0 = ye ∧ rx < xe ∧ ry < ye ∧ xe ≤ wd ∧ ye ≤ h
/-- the place in another image -/
def Plc (px py sx0 sy0 : Int) (sx sy rx ry xe ye h wd : Nat) : Prop :=
  px - sx0 = sx ∧ py - sy0 = sy ∧ sx + (xe - rx) ≤ wd ∧ sy + (ye - ry) ≤ h
/-- a drawing function's end: only the pixels of the rectangle have changed -/
def Drawn (w : World) (pd k h wd rx ry xe ye : Nat) (F D : Nat → Nat → Nat → Int) (e : Ending) (w' : World) : Prop :=
  e = .returned (.tuple #[]) ∧ w.grownBy w' (some pd) ∧ PixI w' pd h wd k (pt (inR rx xe ry ye) F D)
end Go.Proofs.YtgjpohmjkhgpfaaGreat
