/- image/draw: DrawMask: what clip is asked and what it gives, under one name. No condition. -/
import Derived.Test.YtgjpohmjkhgpfaaGreatV1
set_option linter.unusedSimpArgs false
set_option linter.unusedVariables false
namespace Go.Proofs.YtgjpohmjkhgpfaaGreat
open Go.RowKit

/-- clip, without a mask: what is asked, and the cut rectangle b with the points p and q -/
def Cl0 (x0 y0 x1 y1 px py qx qy d0 d1 d2 d3 s0 s1 s2 s3 b0 b1 b2 b3 p0 p1 q0 q1 : Int) : Prop :=
  (sm x0 ∧ sm y0 ∧ sm px ∧ sm py ∧ sm qx ∧ sm qy ∧ sm s0 ∧ sm s1 ∧ sm s2 ∧ sm s3 ∧ sm (x0 - px) ∧ sm (y0 - py) ∧ sm b0 ∧ sm b1) ∧
  (ia 0 (ia 0 x0 y0 x1 y1 d0 d1 d2 d3) (ia 1 x0 y0 x1 y1 d0 d1 d2 d3) (ia 2 x0 y0 x1 y1 d0 d1 d2 d3) (ia 3 x0 y0 x1 y1 d0 d1 d2 d3) (s0 + (x0 - px)) (s1 + (y0 - py)) (s2 + (x0 - px)) (s3 + (y0 - py)) = b0 ∧
   ia 1 (ia 0 x0 y0 x1 y1 d0 d1 d2 d3) (ia 1 x0 y0 x1 y1 d0 d1 d2 d3) (ia 2 x0 y0 x1 y1 d0 d1 d2 d3) (ia 3 x0 y0 x1 y1 d0 d1 d2 d3) (s0 + (x0 - px)) (s1 + (y0 - py)) (s2 + (x0 - px)) (s3 + (y0 - py)) = b1 ∧
   ia 2 (ia 0 x0 y0 x1 y1 d0 d1 d2 d3) (ia 1 x0 y0 x1 y1 d0 d1 d2 d3) (ia 2 x0 y0 x1 y1 d0 d1 d2 d3) (ia 3 x0 y0 x1 y1 d0 d1 d2 d3) (s0 + (x0 - px)) (s1 + (y0 - py)) (s2 + (x0 - px)) (s3 + (y0 - py)) = b2 ∧
   ia 3 (ia 0 x0 y0 x1 y1 d0 d1 d2 d3) (ia 1 x0 y0 x1 y1 d0 d1 d2 d3) (ia 2 x0 y0 x1 y1 d0 d1 d2 d3) (ia 3 x0 y0 x1 y1 d0 d1 d2 d3) (s0 + (x0 - px)) (s1 + (y0 - py)) (s2 + (x0 - px)) (s3 + (y0 - py)) = b3) ∧
  (px + (b0 - x0) = p0 ∧ py + (b1 - y0) = p1 ∧ qx + (b0 - x0) = q0 ∧ qy + (b1 - y0) = q1)
theorem clip0_k {w0 w : World} {br bp bq : Nat} {td ts : TypeId} {vd vs : Value} {x0 y0 x1 y1 px py qx qy d0 d1 d2 d3 s0 s1 s2 s3 b0 b1 b2 b3 p0 p1 q0 q1 : Int}
    (hC : Cl0 x0 y0 x1 y1 px py qx qy d0 d1 d2 d3 s0 s1 s2 s3 b0 b1 b2 b3 p0 p1 q0 q1)
    (hg0 : w0.grownBy w none) (hbr : w0.heap.size ≤ br) (hbp : w0.heap.size ≤ bp) (hbq : w0.heap.size ≤ bq) (n1 : br ≠ bp) (n2 : br ≠ bq) (n3 : bp ≠ bq)
    (hd : Bd w0 td vd d0 d1 d2 d3) (hs : Bd w0 ts vs s0 s1 s2 s3) (hc : Cp w br bp bq x0 y0 x1 y1 px py qx qy) :
    Calls Tryz.prog 48 #[.iface td vd, .pointer (some ⟨br, 0, none⟩), .iface ts vs, .pointer (some ⟨bp, 0, none⟩), .nilIface, .pointer (some ⟨bq, 0, none⟩)] w fun e w' =>
      e = .returned (.tuple #[]) ∧ w0.grownBy w' none ∧ Cp w' br bp bq b0 b1 b2 b3 p0 p1 q0 q1 := by
  obtain ⟨⟨m1, m2, m3, m4, m5, m6, m7, m8, m9, m10, m11, m12, m13, m14⟩, ⟨e0, e1, e2, e3⟩, rfl, rfl, rfl, rfl⟩ := hC
  exact clip0_c hg0 hbr hbp hbq n1 n2 n3 hd hs hc m1 m2 m3 m4 m5 m6 m7 m8 m9 m10 m11 m12 rfl rfl rfl rfl e0 e1 e2 e3 m13 m14
theorem rct_ne {b0 b1 b2 b3 dx0 dy0 : Int} {rx ry xe ye h wd : Nat} (HR : Rct b0 b1 b2 b3 dx0 dy0 rx ry xe ye h wd) : emp b0 b1 b2 b3 = false := by
  obtain ⟨e1, e2, e3, e4, l1, l2, l3, l4⟩ := HR
  unfold emp; simp; omega
theorem drawn_of {w w2 w' : World} {pd k h wd rx ry xe ye : Nat} {F D : Nat → Nat → Nat → Int} {e : Ending} (hg : w.grownBy w2 none) (h1 : Drawn w2 pd k h wd rx ry xe ye F D e w') : Drawn w pd k h wd rx ry xe ye F D e w' :=
  ⟨h1.1, gb_trans (gb_weak hg _) h1.2.1, h1.2.2⟩
/-- clip has been called: the blocks of r, sp and mp are the first three new ones -/
theorem cp_start (w : World) (x0 y0 x1 y1 px py qx qy : Int) : Cp (((w.alloc (.cells #[.int .i64 x0, .int .i64 y0, .int .i64 x1, .int .i64 y1] 78)).alloc (.cells #[.int .i64 px, .int .i64 py] 76)).alloc (.cells #[.int .i64 qx, .int .i64 qy] 76))
    w.heap.size (w.heap.size + 1) (w.heap.size + 2) x0 y0 x1 y1 px py qx qy :=
  ⟨by go_simp, by go_simp, by go_simp, by go_simp, by go_simp, by go_simp, by go_simp, by go_simp, fun k => by go_simp, fun k => by go_simp, fun k => by go_simp⟩
end Go.Proofs.YtgjpohmjkhgpfaaGreat
