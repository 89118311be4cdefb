/- An image of whatever kind that is read through an interface: its bounds and its colors. The pixel lies in the image. -/
import Derived.Test.YtgjpohmjkhgpfaaGreatW6
set_option linter.unusedSimpArgs false
set_option linter.unusedVariables false
namespace Go.Proofs.YtgjpohmjkhgpfaaGreat
open Go.RowKit

/-- f is a function of the program's text -/
def Fn (f : FuncId) : Prop := ∀ (args : Array Value) (w' : World), (callFunc f args).run Tryz.prog w' = .ok (.enter f args) w'
/-- block b is an image of kind k (6: one color), its type t; its pixels lie in block pb -/
inductive Src (w : World) (b pb h wd : Nat) (x0 y0 : Int) (S : Nat → Nat → Nat → Int) : Nat → TypeId → Prop
  | k0 : Pic w b 87 pb 4 h wd x0 y0 S → Src w b pb h wd x0 y0 S 0 85
  | k1 : Pic w b 89 pb 4 h wd x0 y0 S → Src w b pb h wd x0 y0 S 1 88
  | k2 : Pic w b 91 pb 1 h wd x0 y0 S → Src w b pb h wd x0 y0 S 2 90
  | k3 : Pic w b 93 pb 1 h wd x0 y0 S → Src w b pb h wd x0 y0 S 3 92
  | k4 : Pic w b 95 pb 8 h wd x0 y0 S → Src w b pb h wd x0 y0 S 4 94
  | k5 : Pic w b 97 pb 4 h wd x0 y0 S → Src w b pb h wd x0 y0 S 5 96
  | k6 (s : Nat → Int) : By s → S = (fun _ _ => s) → w.cell? ⟨b, 0, none⟩ = some (.iface 103 (c64 (cl 6 s))) → b < w.heap.size → pb = b → x0 = -1000000000 → y0 = -1000000000 → h = 2000000000 → wd = 2000000000 → Src w b pb h wd x0 y0 S 6 100

section
variable {w : World} {b pb h wd k : Nat} {x0 y0 : Int} {S : Nat → Nat → Nat → Int} {t : TypeId}

theorem Src.by (H : Src w b pb h wd x0 y0 S k t) : ∀ r c, By (S r c) := by
  cases H
  case k6 s hb hs hc hl e1 e2 e3 e4 e5 => subst hs; exact fun _ _ => hb
  all_goals (rename_i H; obtain ⟨-, -, -, -, -, -, -, -, -, -, -, -, -, -, -, -, -, -, -, -, -, -, hB⟩ := H.cells; exact hB)
theorem Src.lt (H : Src w b pb h wd x0 y0 S k t) : b < w.heap.size := by
  cases H
  case k6 s hb hs hc hl e1 e2 e3 e4 e5 => exact hl
  all_goals (rename_i H; obtain ⟨-, -, -, -, -, -, -, -, -, hl, -⟩ := H.cells; exact hl)
theorem Src.kept (H : Src w b pb h wd x0 y0 S k t) {w' : World} {pd : Nat} (hg : w.grownBy w' (some pd)) (h1 : b ≠ pd) (h2 : pb ≠ pd) : Src w' b pb h wd x0 y0 S k t := by
  cases H
  case k6 s hb hs hc hl e1 e2 e3 e4 e5 => exact .k6 s hb hs ((gb_cell hg hl h1).trans hc) (Nat.lt_of_lt_of_le hl hg.size) e1 e2 e3 e4 e5
  case k0 H => exact .k0 (H.kept hg h1 h2)
  case k1 H => exact .k1 (H.kept hg h1 h2)
  case k2 H => exact .k2 (H.kept hg h1 h2)
  case k3 H => exact .k3 (H.kept hg h1 h2)
  case k4 H => exact .k4 (H.kept hg h1 h2)
  case k5 H => exact .k5 (H.kept hg h1 h2)
theorem Pic.kept0 {T : TypeId} (H : Pic w b T pb k h wd x0 y0 S) {w' : World} (hg : w.grownBy w' none) : Pic w' b T pb k h wd x0 y0 S := by
  obtain ⟨n, cap, st, hb, hp, rest⟩ := H
  exact ⟨n, cap, st, (gb_block0 hg (lt_of_block hb)).trans hb, hp.kept (gb_block0 hg hp.lt), rest⟩
theorem Src.kept0 (H : Src w b pb h wd x0 y0 S k t) {w' : World} (hg : w.grownBy w' none) : Src w' b pb h wd x0 y0 S k t := by
  cases H
  case k6 s hb hs hc hl e1 e2 e3 e4 e5 => exact .k6 s hb hs ((gb_cell0 hg hl).trans hc) (Nat.lt_of_lt_of_le hl hg.size) e1 e2 e3 e4 e5
  case k0 H => exact .k0 (H.kept0 hg)
  case k1 H => exact .k1 (H.kept0 hg)
  case k2 H => exact .k2 (H.kept0 hg)
  case k3 H => exact .k3 (H.kept0 hg)
  case k4 H => exact .k4 (H.kept0 hg)
  case k5 H => exact .k5 (H.kept0 hg)

/-- the method's function, whatever the world -/
theorem Src.m64 (H : Src w b pb h wd x0 y0 S k t) : ∃ f, Fn f ∧ (∀ w', (method 326 t (.pointer (some ⟨b, 0, none⟩)) "RGBA64At").run Tryz.prog w' = .ok (f, .pointer (some ⟨b, 0, none⟩)) w') ∧
    ∀ (w' : World) (x y : Int) (r c : Nat), Src w' b pb h wd x0 y0 S k t → x - x0 = c → y - y0 = r → c < wd → r < h →
      Calls Tryz.prog f #[.pointer (some ⟨b, 0, none⟩), .int .i64 x, .int .i64 y] w' fun e w'' => e = .returned (c64 (cl k (S r c))) ∧ w'.grownBy w'' none := by
  cases H
  case k6 s hb hs hc hl e1 e2 e3 e4 e5 =>
    refine ⟨192, fun _ _ => by kernel_rfl, fun w' => m_Uniform_RGBA64At _ w', fun w' x y r c H' _ _ _ _ => ?_⟩
    cases H'
    case k6 s' hb' hs' hc' hl' _ _ _ _ _ =>
      rw [hs']; exact RGBA64At_Uniform (cl 6 s') b x y w' (fun i => cl_range hb' i) hc' hl'
  case k0 H =>
    refine ⟨129, fun _ _ => by kernel_rfl, fun w' => m_RGBA_RGBA64At _ w', fun w' x y r c H' g1 g2 g3 g4 => ?_⟩
    cases H'
    case k0 H' => exact RGBA64At_RGBA w' H' g1 g2 g3 g4
  case k1 H =>
    refine ⟨139, fun _ _ => by kernel_rfl, fun w' => m_NRGBA_RGBA64At _ w', fun w' x y r c H' g1 g2 g3 g4 => ?_⟩
    cases H'
    case k1 H' => exact RGBA64At_NRGBA w' H' g1 g2 g3 g4
  case k2 H =>
    refine ⟨148, fun _ _ => by kernel_rfl, fun w' => m_Alpha_RGBA64At _ w', fun w' x y r c H' g1 g2 g3 g4 => ?_⟩
    cases H'
    case k2 H' => exact RGBA64At_Alpha w' H' g1 g2 g3 g4
  case k3 H =>
    refine ⟨158, fun _ _ => by kernel_rfl, fun w' => m_Gray_RGBA64At _ w', fun w' x y r c H' g1 g2 g3 g4 => ?_⟩
    cases H'
    case k3 H' => exact RGBA64At_Gray w' H' g1 g2 g3 g4
  case k4 H =>
    refine ⟨168, fun _ _ => by kernel_rfl, fun w' => m_RGBA64_RGBA64At _ w', fun w' x y r c H' g1 g2 g3 g4 => ?_⟩
    cases H'
    case k4 H' => exact RGBA64At_RGBA64 w' H' g1 g2 g3 g4
  case k5 H =>
    refine ⟨178, fun _ _ => by kernel_rfl, fun w' => m_CMYK_RGBA64At _ w', fun w' x y r c H' g1 g2 g3 g4 => ?_⟩
    cases H'
    case k5 H' => exact RGBA64At_CMYK w' H' g1 g2 g3 g4

theorem Src.mb (H : Src w b pb h wd x0 y0 S k t) : ∃ f, Fn f ∧ (∀ w', (method 326 t (.pointer (some ⟨b, 0, none⟩)) "Bounds").run Tryz.prog w' = .ok (f, .pointer (some ⟨b, 0, none⟩)) w') ∧
    ∀ (w' : World), Src w' b pb h wd x0 y0 S k t →
      Calls Tryz.prog f #[.pointer (some ⟨b, 0, none⟩)] w' fun e w'' => e = .returned (vR x0 y0 (x0 + wd) (y0 + h)) ∧ w'.grownBy w'' none := by
  cases H
  case k6 s hb hs hc hl e1 e2 e3 e4 e5 =>
    refine ⟨188, fun _ _ => by kernel_rfl, fun w' => m_Uniform_Bounds _ w', fun w' _ => ?_⟩
    subst e2 e3 e4 e5
    exact bounds_Uniform _ w'
  case k0 H =>
    refine ⟨126, fun _ _ => by kernel_rfl, fun w' => m_RGBA_Bounds _ w', fun w' H' => ?_⟩
    cases H'
    case k0 H' => exact bounds_RGBA w' H'
  case k1 H =>
    refine ⟨136, fun _ _ => by kernel_rfl, fun w' => m_NRGBA_Bounds _ w', fun w' H' => ?_⟩
    cases H'
    case k1 H' => exact bounds_NRGBA w' H'
  case k2 H =>
    refine ⟨145, fun _ _ => by kernel_rfl, fun w' => m_Alpha_Bounds _ w', fun w' H' => ?_⟩
    cases H'
    case k2 H' => exact bounds_Alpha w' H'
  case k3 H =>
    refine ⟨155, fun _ _ => by kernel_rfl, fun w' => m_Gray_Bounds _ w', fun w' H' => ?_⟩
    cases H'
    case k3 H' => exact bounds_Gray w' H'
  case k4 H =>
    refine ⟨165, fun _ _ => by kernel_rfl, fun w' => m_RGBA64_Bounds _ w', fun w' H' => ?_⟩
    cases H'
    case k4 H' => exact bounds_RGBA64 w' H'
  case k5 H =>
    refine ⟨175, fun _ _ => by kernel_rfl, fun w' => m_CMYK_Bounds _ w', fun w' H' => ?_⟩
    cases H'
    case k5 H' => exact bounds_CMYK w' H'

/-- a color's value, and its RGBA method -/
def Col (v : Nat → Int) (tc : TypeId) (cv : Value) : Prop :=
  ∃ g, Fn g ∧ (∀ w', (method 326 tc cv "RGBA").run Tryz.prog w' = .ok (g, cv) w') ∧ ∀ w' : World, Calls Tryz.prog g #[cv] w' fun e w'' => e = .returned (v4 v) ∧ w'.grownBy w'' none
theorem Src.mat (H : Src w b pb h wd x0 y0 S k t) : ∃ f, Fn f ∧ (∀ w', (method 326 t (.pointer (some ⟨b, 0, none⟩)) "At").run Tryz.prog w' = .ok (f, .pointer (some ⟨b, 0, none⟩)) w') ∧
    ∀ (w' : World) (x y : Int) (r c : Nat), Src w' b pb h wd x0 y0 S k t → x - x0 = c → y - y0 = r → c < wd → r < h →
      Calls Tryz.prog f #[.pointer (some ⟨b, 0, none⟩), .int .i64 x, .int .i64 y] w' fun e w'' => (∃ tc cv, e = .returned (.iface tc cv) ∧ Col (cl k (S r c)) tc cv) ∧ w'.grownBy w'' none := by
  have HB := H.by
  cases H
  case k6 s hb hs hc hl e1 e2 e3 e4 e5 =>
    refine ⟨187, fun _ _ => by kernel_rfl, fun w' => m_Uniform_At _ w', fun w' x y r c H' _ _ _ _ => ?_⟩
    cases H'
    case k6 s' hb' hs' hc' hl' _ _ _ _ _ =>
      refine (At_Uniform (cl 6 s') b x y w' hc').mono ?_
      rintro e w2 ⟨rfl, hg⟩
      rw [hs']
      exact ⟨⟨_, _, rfl, 193, fun _ _ => by kernel_rfl, fun w' => m_cRGBA64 _ _ _ _ w', fun w' => (rgba64_RGBA_c (cl 6 s') w' (fun i => cl_range hb' i)).mono (by rintro e w3 ⟨rfl, hg⟩; exact ⟨rfl, hg⟩)⟩, hg⟩
  case k0 H =>
    refine ⟨125, fun _ _ => by kernel_rfl, fun w' => m_RGBA_At _ w', fun w' x y r c H' g1 g2 g3 g4 => ?_⟩
    cases H'
    case k0 H' =>
      refine (At_RGBA w' H' g1 g2 g3 g4).mono ?_
      rintro e w2 ⟨rfl, hg⟩
      exact ⟨⟨_, _, rfl, 86, fun _ _ => by kernel_rfl, fun w' => m_cRGBA _ _ _ _ w', fun w' => (rgba_RGBA_c (S r c) w' (HB r c)).mono (by rintro e w3 ⟨rfl, hg⟩; exact ⟨rfl, hg⟩)⟩, hg⟩
  case k1 H =>
    refine ⟨135, fun _ _ => by kernel_rfl, fun w' => m_NRGBA_At _ w', fun w' x y r c H' g1 g2 g3 g4 => ?_⟩
    cases H'
    case k1 H' =>
      refine (At_NRGBA w' H' g1 g2 g3 g4).mono ?_
      rintro e w2 ⟨rfl, hg⟩
      exact ⟨⟨_, _, rfl, 89, fun _ _ => by kernel_rfl, fun w' => m_cNRGBA _ _ _ _ w', fun w' => (nrgba_RGBA_c (S r c) w' (HB r c)).mono (by rintro e w3 ⟨rfl, hg⟩; exact ⟨rfl, hg⟩)⟩, hg⟩
  case k2 H =>
    refine ⟨144, fun _ _ => by kernel_rfl, fun w' => m_Alpha_At _ w', fun w' x y r c H' g1 g2 g3 g4 => ?_⟩
    cases H'
    case k2 H' =>
      refine (At_Alpha w' H' g1 g2 g3 g4).mono ?_
      rintro e w2 ⟨rfl, hg⟩
      exact ⟨⟨_, _, rfl, 222, fun _ _ => by kernel_rfl, fun w' => m_cAlpha _ w', fun w' => (alpha_RGBA_c (S r c) w' (HB r c)).mono (by rintro e w3 ⟨rfl, hg⟩; exact ⟨rfl, hg⟩)⟩, hg⟩
  case k3 H =>
    refine ⟨154, fun _ _ => by kernel_rfl, fun w' => m_Gray_At _ w', fun w' x y r c H' g1 g2 g3 g4 => ?_⟩
    cases H'
    case k3 H' =>
      refine (At_Gray w' H' g1 g2 g3 g4).mono ?_
      rintro e w2 ⟨rfl, hg⟩
      exact ⟨⟨_, _, rfl, 223, fun _ _ => by kernel_rfl, fun w' => m_cGray _ w', fun w' => (gray_RGBA_c (S r c) w' (HB r c)).mono (by rintro e w3 ⟨rfl, hg⟩; exact ⟨rfl, hg⟩)⟩, hg⟩
  case k4 H =>
    refine ⟨164, fun _ _ => by kernel_rfl, fun w' => m_RGBA64_At _ w', fun w' x y r c H' g1 g2 g3 g4 => ?_⟩
    cases H'
    case k4 H' =>
      refine (At_RGBA64 w' H' g1 g2 g3 g4).mono ?_
      rintro e w2 ⟨rfl, hg⟩
      exact ⟨⟨_, _, rfl, 193, fun _ _ => by kernel_rfl, fun w' => m_cRGBA64 _ _ _ _ w', fun w' => (rgba64_RGBA_c (cl 4 (S r c)) w' (fun i => cl_range (HB r c) i)).mono (by rintro e w3 ⟨rfl, hg⟩; exact ⟨rfl, hg⟩)⟩, hg⟩
  case k5 H =>
    refine ⟨174, fun _ _ => by kernel_rfl, fun w' => m_CMYK_At _ w', fun w' x y r c H' g1 g2 g3 g4 => ?_⟩
    cases H'
    case k5 H' =>
      refine (At_CMYK w' H' g1 g2 g3 g4).mono ?_
      rintro e w2 ⟨rfl, hg⟩
      exact ⟨⟨_, _, rfl, 182, fun _ _ => by kernel_rfl, fun w' => m_cCMYK _ _ _ _ w', fun w' => (cmyk_RGBA_c (S r c) w' (HB r c)).mono (by rintro e w3 ⟨rfl, hg⟩; exact ⟨rfl, hg⟩)⟩, hg⟩
end
end Go.Proofs.YtgjpohmjkhgpfaaGreat
