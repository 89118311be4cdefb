/- The reference's rectangles: what two have in common, moved, cut. No condition. -/
import Derived.Test.YtgjpohmjkhgpfaaGreatLA
import Derived.Test.YtgjpohmjkhgpfaaGreatG
set_option linter.unusedSimpArgs false
set_option linter.unusedVariables false
namespace Go.Proofs.YtgjpohmjkhgpfaaGreat
open Go.RowKit

theorem run_max2 (a b : Int) (ts : Array TypeId) (t : TypeId) (w : World) : (Builtin.max_ ts t #[.int .i64 a, .int .i64 b]).run Tryz.prog w = .ok (.int .i64 (hi2 a b)) w := by
  unfold hi2
  by_cases h : a < b <;> simp [Builtin.max_, Builtin.max2, h]
theorem run_min2 (a b : Int) (ts : Array TypeId) (t : TypeId) (w : World) : (Builtin.min_ ts t #[.int .i64 a, .int .i64 b]).run Tryz.prog w = .ok (.int .i64 (lo2 a b)) w := by
  unfold lo2
  by_cases h : b < a <;> simp [Builtin.min_, Builtin.min2, h]
set_option maxRecDepth 100000 in
set_option maxHeartbeats 2000000 in
theorem sempty_c (x0 y0 x1 y1 : Int) (w : World) :
    Calls Tryz.prog 22 #[vR x0 y0 x1 y1] w fun e w' => e = .returned (.bool (emp x0 y0 x1 y1)) ∧ w.alloc (.cells #[.int .i64 x0, .int .i64 y0, .int .i64 x1, .int .i64 y1] 28) = w' := by
  by_cases h : x1 ≤ x0
  · go_enter Tryz.func22, Tryz.ntmps22
    go_wp2
    go_ret
    exact ⟨by simp [emp, h], rfl⟩
  · by_cases h2 : y1 ≤ y0
    · go_enter Tryz.func22, Tryz.ntmps22
      go_wp2
      go_ret
      exact ⟨by simp [emp, h, h2], rfl⟩
    · go_enter Tryz.func22, Tryz.ntmps22
      go_wp2
      go_ret
      exact ⟨by simp [emp, h, h2], rfl⟩
set_option maxRecDepth 100000 in
set_option maxHeartbeats 2000000 in
theorem scommon_c (x0 y0 x1 y1 u0 v0 u1 v1 : Int) (w : World) :
    Calls Tryz.prog 26 #[vR x0 y0 x1 y1, vR u0 v0 u1 v1] w fun e w' => e = .returned (isec x0 y0 x1 y1 u0 v0 u1 v1) ∧ w.grownBy w' none := by
  have hmx := fun a b ts t w => run_max2 a b ts t w
  have hmn := fun a b ts t w => run_min2 a b ts t w
  go_enter Tryz.func26, Tryz.ntmps26
  go_wp2_with (go_at_call 22; refine (sempty_c _ _ _ _ _).mono ?_; rintro e w' ⟨rfl, rfl⟩)
  · rename_i h
    refine bodyPost_ret (v := isec x0 y0 x1 y1 u0 v0 u1 v1) ?_ rfl ⟨rfl, ?_⟩
    · unfold isec; rw [h]; simp [results, Tryz.results26, go_sem]
    · (repeat (first | exact gb_refl _ _ | refine gb_alloc ?_ _ | refine gb_setCell ?_ (.inr (by simp <;> omega)) _))
  · rename_i h
    refine bodyPost_ret (v := isec x0 y0 x1 y1 u0 v0 u1 v1) ?_ rfl ⟨rfl, ?_⟩
    · unfold isec; rw [h]; simp [results, Tryz.results26, go_sem]
    · (repeat (first | exact gb_refl _ _ | refine gb_alloc ?_ _ | refine gb_setCell ?_ (.inr (by simp <;> omega)) _))
set_option maxRecDepth 100000 in
set_option maxHeartbeats 2000000 in
theorem smoved_c (x0 y0 x1 y1 x y : Int) (w : World) (h0 : sm x0) (h1 : sm y0) (h2 : sm x1) (h3 : sm y1) (h4 : sm x) (h5 : sm y) :
    Calls Tryz.prog 31 #[vR x0 y0 x1 y1, .int .i64 x, .int .i64 y] w fun e w' => e = .returned (vR (x0 + x) (y0 + y) (x1 + x) (y1 + y)) ∧ w.grownBy w' none := by
  unfold sm at *
  go_enter Tryz.func31, Tryz.ntmps31
  go_wp2
  exact bodyPost_ret (v := vR (x0 + x) (y0 + y) (x1 + x) (y1 + y)) (by simp [results, Tryz.results31, go_sem]) rfl ⟨rfl, by (repeat (first | exact gb_refl _ _ | refine gb_alloc ?_ _ | refine gb_setCell ?_ (.inr (by simp <;> omega)) _))⟩
set_option maxRecDepth 100000 in
set_option maxHeartbeats 2000000 in
theorem sbounds_c (k x0 y0 x1 y1 : Int) (A : Option Addr) (n c : Nat) (w : World) :
    Calls Tryz.prog 19 #[vI k x0 y0 x1 y1 A n c] w fun e w' => e = .returned (bif decide (k = 6) then vR (-1000000000) (-1000000000) 1000000000 1000000000 else vR x0 y0 x1 y1) ∧ w.grownBy w' none := by
  by_cases h : k = 6
  · subst h
    go_enter Tryz.func19, Tryz.ntmps19
    go_wp2
    exact bodyPost_ret (v := vR (-1000000000) (-1000000000) 1000000000 1000000000) (by simp [results, Tryz.results19, go_sem]) rfl ⟨rfl, by (repeat (first | exact gb_refl _ _ | refine gb_alloc ?_ _ | refine gb_setCell ?_ (.inr (by simp <;> omega)) _))⟩
  · have hd : decide (k = 6) = false := by simpa using h
    rw [hd]
    go_enter Tryz.func19, Tryz.ntmps19
    go_wp2
    exact bodyPost_ret (v := vR x0 y0 x1 y1) (by simp [results, Tryz.results19, go_sem]) rfl ⟨rfl, by (repeat (first | exact gb_refl _ _ | refine gb_alloc ?_ _ | refine gb_setCell ?_ (.inr (by simp <;> omega)) _))⟩
end Go.Proofs.YtgjpohmjkhgpfaaGreat
