/- image/draw: clip's rectangle and points in memory. No condition. -/
import Derived.Test.YtgjpohmjkhgpfaaGreatS
import Derived.Deep.RegionWith
import Derived.IntWalk
import Derived.Deep.RegionHeld3
import Derived.Deep.DeepCutAuto
import Derived.Deep.CutBlock
set_option linter.unusedSimpArgs false
set_option linter.unusedVariables false
namespace Go.Proofs.YtgjpohmjkhgpfaaGreat
open Go.RowKit

/-- a cut rectangle's four numbers -/
def ia (i : Nat) (x0 y0 x1 y1 u0 v0 u1 v1 : Int) : Int :=
  bif emp (hi2 x0 u0) (hi2 y0 v0) (lo2 x1 u1) (lo2 y1 v1) then 0 else (match i with | 0 => hi2 x0 u0 | 1 => hi2 y0 v0 | 2 => lo2 x1 u1 | _ => lo2 y1 v1)
theorem isec_ia (x0 y0 x1 y1 u0 v0 u1 v1 : Int) : isec x0 y0 x1 y1 u0 v0 u1 v1 = vR (ia 0 x0 y0 x1 y1 u0 v0 u1 v1) (ia 1 x0 y0 x1 y1 u0 v0 u1 v1) (ia 2 x0 y0 x1 y1 u0 v0 u1 v1) (ia 3 x0 y0 x1 y1 u0 v0 u1 v1) := by
  unfold isec ia
  cases emp (hi2 x0 u0) (hi2 y0 v0) (lo2 x1 u1) (lo2 y1 v1) <;> rfl

/-- an interface's value has bounds, in whatever world that has grown out of w -/
def Bd (w : World) (t : TypeId) (v : Value) (x0 y0 x1 y1 : Int) : Prop :=
  ∃ f, Fn f ∧ (∀ w', (method 326 t v "Bounds").run Tryz.prog w' = .ok (f, v) w') ∧
    ∀ w' : World, w.grownBy w' none → Calls Tryz.prog f #[v] w' fun e w'' => e = .returned (vR x0 y0 x1 y1) ∧ w'.grownBy w'' none
theorem Src.bd {w : World} {b pb h wd k : Nat} {x0 y0 : Int} {S : Nat → Nat → Nat → Int} {t : TypeId} (H : Src w b pb h wd x0 y0 S k t) : Bd w t (.pointer (some ⟨b, 0, none⟩)) x0 y0 (x0 + wd) (y0 + h) := by
  obtain ⟨f, hF, hm, hf⟩ := H.mb
  exact ⟨f, hF, hm, fun w' hg => hf w' (H.kept0 hg)⟩

/-- the cells of clip's rectangle and points -/
def Cp (w : World) (br bp bq : Nat) (x0 y0 x1 y1 px py qx qy : Int) : Prop :=
  w.cell? ⟨br, 0, none⟩ = some (.int .i64 x0) ∧ w.cell? ⟨br, 1, none⟩ = some (.int .i64 y0) ∧ w.cell? ⟨br, 2, none⟩ = some (.int .i64 x1) ∧ w.cell? ⟨br, 3, none⟩ = some (.int .i64 y1) ∧
  w.cell? ⟨bp, 0, none⟩ = some (.int .i64 px) ∧ w.cell? ⟨bp, 1, none⟩ = some (.int .i64 py) ∧ w.cell? ⟨bq, 0, none⟩ = some (.int .i64 qx) ∧ w.cell? ⟨bq, 1, none⟩ = some (.int .i64 qy) ∧
  (∀ k, w.frozen? ⟨br, k, none⟩ = false) ∧ (∀ k, w.frozen? ⟨bp, k, none⟩ = false) ∧ (∀ k, w.frozen? ⟨bq, k, none⟩ = false)

theorem Cp.grown {w w' : World} {br bp bq : Nat} {x0 y0 x1 y1 px py qx qy : Int} (h : Cp w br bp bq x0 y0 x1 y1 px py qx qy) (hg : w.grownBy w' none) : Cp w' br bp bq x0 y0 x1 y1 px py qx qy := by
  obtain ⟨c0, c1, c2, c3, p0, p1, q0, q1, fr, fp, fq⟩ := h
  have lr : br < w.heap.size := World.block_lt_of_cell? w _ c0
  have lp : bp < w.heap.size := World.block_lt_of_cell? w _ p0
  have lq : bq < w.heap.size := World.block_lt_of_cell? w _ q0
  exact ⟨(gb_cell0 hg lr).trans c0, (gb_cell0 hg lr).trans c1, (gb_cell0 hg lr).trans c2, (gb_cell0 hg lr).trans c3, (gb_cell0 hg lp).trans p0, (gb_cell0 hg lp).trans p1, (gb_cell0 hg lq).trans q0, (gb_cell0 hg lq).trans q1,
    fun k => (gb_free0 hg (p := ⟨br, k, none⟩) lr).trans (fr k), fun k => (gb_free0 hg (p := ⟨bp, k, none⟩) lp).trans (fp k), fun k => (gb_free0 hg (p := ⟨bq, k, none⟩) lq).trans (fq k)⟩
/-- the rectangle is stored anew -/
theorem cp_step {w0 wc w2 : World} {br bp bq bo : Nat} {x0 y0 a0 a1 a2 a3 b0 b1 b2 b3 px py qx qy : Int} (hg1 : w0.grownBy wc none) (hB : wc.grownBy w2 none) (hbr : w0.heap.size ≤ br)
    (hc : Cp wc br bp bq a0 a1 a2 a3 px py qx qy) (n1 : br ≠ bp) (n2 : br ≠ bq) (n4 : br ≠ bo) (hz : bo < wc.heap.size) (o0 : wc.cell? ⟨bo, 0, none⟩ = some (.int .i64 x0)) (o1 : wc.cell? ⟨bo, 1, none⟩ = some (.int .i64 y0)) :
    w0.grownBy ((((w2.setCell ⟨br, 0, none⟩ (.int .i64 b0)).setCell ⟨br, 1, none⟩ (.int .i64 b1)).setCell ⟨br, 2, none⟩ (.int .i64 b2)).setCell ⟨br, 3, none⟩ (.int .i64 b3)) none ∧
    bo < ((((w2.setCell ⟨br, 0, none⟩ (.int .i64 b0)).setCell ⟨br, 1, none⟩ (.int .i64 b1)).setCell ⟨br, 2, none⟩ (.int .i64 b2)).setCell ⟨br, 3, none⟩ (.int .i64 b3)).heap.size ∧
    Cp ((((w2.setCell ⟨br, 0, none⟩ (.int .i64 b0)).setCell ⟨br, 1, none⟩ (.int .i64 b1)).setCell ⟨br, 2, none⟩ (.int .i64 b2)).setCell ⟨br, 3, none⟩ (.int .i64 b3)) br bp bq b0 b1 b2 b3 px py qx qy ∧
    ((((w2.setCell ⟨br, 0, none⟩ (.int .i64 b0)).setCell ⟨br, 1, none⟩ (.int .i64 b1)).setCell ⟨br, 2, none⟩ (.int .i64 b2)).setCell ⟨br, 3, none⟩ (.int .i64 b3)).cell? ⟨bo, 0, none⟩ = some (.int .i64 x0) ∧
    ((((w2.setCell ⟨br, 0, none⟩ (.int .i64 b0)).setCell ⟨br, 1, none⟩ (.int .i64 b1)).setCell ⟨br, 2, none⟩ (.int .i64 b2)).setCell ⟨br, 3, none⟩ (.int .i64 b3)).cell? ⟨bo, 1, none⟩ = some (.int .i64 y0) := by
  obtain ⟨c0, c1, c2, c3, p0, p1, q0, q1, fr, fp, fq⟩ := hc.grown hB
  have o0' := (gb_cell0 hB hz).trans o0
  have o1' := (gb_cell0 hB hz).trans o1
  have hs := hB.size
  refine ⟨gb_setCell (gb_setCell (gb_setCell (gb_setCell (gb_trans hg1 hB) (.inr hbr) _) (.inr hbr) _) (.inr hbr) _) (.inr hbr) _, by simp; omega, ⟨by go_simp, by go_simp, by go_simp, by go_simp, by go_simp, by go_simp, by go_simp, by go_simp, fun k => by go_simp, fun k => by go_simp, fun k => by go_simp⟩, by go_simp, by go_simp⟩
end Go.Proofs.YtgjpohmjkhgpfaaGreat
