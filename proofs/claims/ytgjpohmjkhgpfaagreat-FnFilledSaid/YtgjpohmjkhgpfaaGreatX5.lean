/- image/draw: DrawMask, where nothing is left of the rectangle: each pixel of the rectangle is composed, all others stay. -/
import Derived.Test.YtgjpohmjkhgpfaaGreatX0
import Derived.Test.YtgjpohmjkhgpfaaGreatTA
set_option linter.unusedSimpArgs false
set_option linter.unusedVariables false
namespace Go.Proofs.YtgjpohmjkhgpfaaGreat
open Go.RowKit

set_option maxRecDepth 100000 in
set_option maxHeartbeats 8000000 in
theorem dm_emp0 {td ts : TypeId} {vd vs : Value} {x0 y0 x1 y1 px py qx qy d0 d1 d2 d3 s0 s1 s2 s3 b0 b1 b2 b3 p0 p1 q0 q1 op : Int} (w : World)
    (hD : Bd w td vd d0 d1 d2 d3) (hS : Bd w ts vs s0 s1 s2 s3)
    (hC : Cl0 x0 y0 x1 y1 px py qx qy d0 d1 d2 d3 s0 s1 s2 s3 b0 b1 b2 b3 p0 p1 q0 q1) (hE : emp b0 b1 b2 b3 = true) :
    Calls Tryz.prog 42 #[.iface td vd, vR x0 y0 x1 y1, .iface ts vs, vP px py, .nilIface, vP qx qy, .int .i64 op] w fun e w' => e = .returned (.tuple #[]) ∧ w.grownBy w' none := by
  have HC := hid hC
  have Hem := hid hE
  have HD := hid hD
  have HS := hid hS
  clear hC hE hD hS
  go_enter Tryz.func42, Tryz.ntmps42
  go_wp2_with fail
  refine (clip0_k HC.out (w0 := w) (gb_alloc (gb_alloc (gb_alloc (gb_refl _ _) _) _) _) (Nat.le_refl _) (by omega) (by omega) (by omega) (by omega) (by omega) HD.out HS.out (cp_start _ _ _ _ _ _ _ _ _)).mono ?_
  rintro e w1 ⟨rfl, hg, ⟨c0, c1, c2, c3, k0, k1, l0, l1, fr, fp, fq⟩⟩
  clear fr fp fq k0 k1 l0 l1
  have Hg := hid hg
  clear hg
  go_wp2_with fail
  refine (empty_c b0 b1 b2 b3 _).mono ?_
  rintro e w2 ⟨rfl, rfl⟩
  rw [Hem.out]
  go_wp2_with fail
  exact bodyPost_ret (v := .tuple #[]) (by simp [results, Tryz.results42]) rfl ⟨rfl, gb_alloc Hg.out _⟩
end Go.Proofs.YtgjpohmjkhgpfaaGreat
