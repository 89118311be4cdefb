/- The rectangles and points of package image: what each method returns. No condition but on the size of the numbers. -/
import Derived.Test.YtgjpohmjkhgpfaaGreatD
import Derived.Deep.DeepCutAuto
import Derived.Deep.CutBlock
set_option linter.unusedSimpArgs false
set_option linter.unusedVariables false
namespace Go.Proofs.YtgjpohmjkhgpfaaGreat
open Go.RowKit

/-- a rectangle as a value -/
abbrev vR (x0 y0 x1 y1 : Int) : Value := .agg #[.int .i64 x0, .int .i64 y0, .int .i64 x1, .int .i64 y1]
abbrev vP (x y : Int) : Value := .agg #[.int .i64 x, .int .i64 y]
/-- what a drawing's coordinates keep to -/
def sm (x : Int) : Prop := -2000000000 ≤ x ∧ x ≤ 2000000000

theorem dx_c (x0 y0 x1 y1 : Int) (w : World) (h0 : sm x0) (h1 : sm x1) :
    Calls Tryz.prog 64 #[vR x0 y0 x1 y1] w fun e w' => e = .returned (.int .i64 (x1 - x0)) ∧ w.alloc (.cells #[.int .i64 x0, .int .i64 y0, .int .i64 x1, .int .i64 y1] 78) = w' := by
  unfold sm at h0 h1
  go_enter Tryz.func64, Tryz.ntmps64
  go_wp2
  go_ret
  exact ⟨rfl, rfl⟩

theorem dy_c (x0 y0 x1 y1 : Int) (w : World) (h0 : sm y0) (h1 : sm y1) :
    Calls Tryz.prog 77 #[vR x0 y0 x1 y1] w fun e w' => e = .returned (.int .i64 (y1 - y0)) ∧ w.alloc (.cells #[.int .i64 x0, .int .i64 y0, .int .i64 x1, .int .i64 y1] 78) = w' := by
  unfold sm at h0 h1
  go_enter Tryz.func77, Tryz.ntmps77
  go_wp2
  go_ret
  exact ⟨rfl, rfl⟩

/-- no pixel -/
def emp (x0 y0 x1 y1 : Int) : Bool := decide (x1 ≤ x0) || decide (y1 ≤ y0)

theorem empty_c (x0 y0 x1 y1 : Int) (w : World) :
    Calls Tryz.prog 49 #[vR x0 y0 x1 y1] w fun e w' => e = .returned (.bool (emp x0 y0 x1 y1)) ∧ w.alloc (.cells #[.int .i64 x0, .int .i64 y0, .int .i64 x1, .int .i64 y1] 78) = w' := by
  unfold emp
  by_cases h : x1 ≤ x0
  · go_enter Tryz.func49, Tryz.ntmps49
    go_wp2
    go_ret
    exact ⟨by simp [h], rfl⟩
  · have h' : x0 < x1 := by omega
    go_enter Tryz.func49, Tryz.ntmps49
    go_wp2
    go_ret
    exact ⟨by simp; omega, rfl⟩

theorem add_c (x0 y0 x1 y1 x y : Int) (w : World) (h0 : sm x0) (h1 : sm y0) (h2 : sm x1) (h3 : sm y1) (h4 : sm x) (h5 : sm y) :
    Calls Tryz.prog 75 #[vR x0 y0 x1 y1, vP x y] w fun e w' => e = .returned (vR (x0 + x) (y0 + y) (x1 + x) (y1 + y)) ∧ w.grownBy w' none := by
  unfold sm at *
  go_enter Tryz.func75, Tryz.ntmps75
  go_wp2
  exact bodyPost_ret (v := vR (x0 + x) (y0 + y) (x1 + x) (y1 + y)) (by simp [results, Tryz.results75, go_sem]) rfl ⟨rfl, gb_alloc (gb_alloc (gb_alloc (gb_refl _ _) _) _) _⟩

theorem sub_c (x0 y0 x y : Int) (w : World) (h0 : sm x0) (h1 : sm y0) (h4 : sm x) (h5 : sm y) :
    Calls Tryz.prog 76 #[vP x0 y0, vP x y] w fun e w' => e = .returned (vP (x0 - x) (y0 - y)) ∧ w.grownBy w' none := by
  unfold sm at *
  go_enter Tryz.func76, Tryz.ntmps76
  go_wp2
  exact bodyPost_ret (v := vP (x0 - x) (y0 - y)) (by simp [results, Tryz.results76, go_sem]) rfl ⟨rfl, gb_alloc (gb_alloc (gb_alloc (gb_refl _ _) _) _) _⟩

/-- the greater and the smaller, as the code has it -/
def hi2 (a b : Int) : Int := if a < b then b else a
def lo2 (a b : Int) : Int := if b < a then b else a
theorem hi2_eq (a b : Int) : hi2 a b = max a b := by unfold hi2; split <;> omega
theorem lo2_eq (a b : Int) : lo2 a b = min a b := by unfold lo2; split <;> omega
theorem hi2_t {a b : Int} (h : a < b) : hi2 a b = b := if_pos h
theorem hi2_f {a b : Int} (h : ¬ a < b) : hi2 a b = a := if_neg h
theorem lo2_t {a b : Int} (h : b < a) : lo2 a b = b := if_pos h
theorem lo2_f {a b : Int} (h : ¬ b < a) : lo2 a b = a := if_neg h
/-- what two rectangles have in common -/
def isec (x0 y0 x1 y1 u0 v0 u1 v1 : Int) : Value :=
  bif emp (hi2 x0 u0) (hi2 y0 v0) (lo2 x1 u1) (lo2 y1 v1) then vR 0 0 0 0 else vR (hi2 x0 u0) (hi2 y0 v0) (lo2 x1 u1) (lo2 y1 v1)

set_option maxRecDepth 100000 in
set_option maxHeartbeats 4000000 in
theorem intersect_c (x0 y0 x1 y1 u0 v0 u1 v1 : Int) (w : World) :
    Calls Tryz.prog 74 #[vR x0 y0 x1 y1, vR u0 v0 u1 v1] w fun e w' => e = .returned (isec x0 y0 x1 y1 u0 v0 u1 v1) ∧ w.grownBy w' none := by
  go_enter Tryz.func74, Tryz.ntmps74
  go_upto_if 11 with (fail)
  go_cut [] (fun wx => wx = (((w.alloc (.cells #[.int .i64 (hi2 x0 u0), .int .i64 y0, .int .i64 x1, .int .i64 y1] 78)).alloc (.cells #[.int .i64 u0, .int .i64 v0, .int .i64 u1, .int .i64 v1] 78)).alloc (.cells #[.int .i64 0, .int .i64 0, .int .i64 0, .int .i64 0] 78)))
  case first =>
    by_cases h : x0 < u0
    · go_wp2_with fail
      go_meet
      rw [hi2_t (a := x0) (b := u0) h]
    · go_wp2_with fail
      go_meet
      rw [hi2_f (a := x0) (b := u0) (by omega)]
  case rest =>
  subst hcut
  go_upto_if 23 with (fail)
  go_cut [] (fun wx => wx = (((w.alloc (.cells #[.int .i64 (hi2 x0 u0), .int .i64 (hi2 y0 v0), .int .i64 x1, .int .i64 y1] 78)).alloc (.cells #[.int .i64 u0, .int .i64 v0, .int .i64 u1, .int .i64 v1] 78)).alloc (.cells #[.int .i64 0, .int .i64 0, .int .i64 0, .int .i64 0] 78)))
  case first =>
    by_cases h : y0 < v0
    · go_wp2_with fail
      go_meet
      rw [hi2_t (a := y0) (b := v0) h]
    · go_wp2_with fail
      go_meet
      rw [hi2_f (a := y0) (b := v0) (by omega)]
  case rest =>
  subst hcut
  go_upto_if 35 with (fail)
  go_cut [] (fun wx => wx = (((w.alloc (.cells #[.int .i64 (hi2 x0 u0), .int .i64 (hi2 y0 v0), .int .i64 (lo2 x1 u1), .int .i64 y1] 78)).alloc (.cells #[.int .i64 u0, .int .i64 v0, .int .i64 u1, .int .i64 v1] 78)).alloc (.cells #[.int .i64 0, .int .i64 0, .int .i64 0, .int .i64 0] 78)))
  case first =>
    by_cases h : u1 < x1
    · go_wp2_with fail
      go_meet
      rw [lo2_t (a := x1) (b := u1) h]
    · go_wp2_with fail
      go_meet
      rw [lo2_f (a := x1) (b := u1) (by omega)]
  case rest =>
  subst hcut
  go_upto_if 47 with (fail)
  go_cut [] (fun wx => wx = (((w.alloc (.cells #[.int .i64 (hi2 x0 u0), .int .i64 (hi2 y0 v0), .int .i64 (lo2 x1 u1), .int .i64 (lo2 y1 v1)] 78)).alloc (.cells #[.int .i64 u0, .int .i64 v0, .int .i64 u1, .int .i64 v1] 78)).alloc (.cells #[.int .i64 0, .int .i64 0, .int .i64 0, .int .i64 0] 78)))
  case first =>
    by_cases h : v1 < y1
    · go_wp2_with fail
      go_meet
      rw [lo2_t (a := y1) (b := v1) h]
    · go_wp2_with fail
      go_meet
      rw [lo2_f (a := y1) (b := v1) (by omega)]
  case rest =>
  subst hcut
  go_wp2_with (go_at_call 49; refine (empty_c _ _ _ _ _).mono ?_; rintro e w' ⟨rfl, rfl⟩)
  · rename_i h
    refine bodyPost_ret (v := isec x0 y0 x1 y1 u0 v0 u1 v1) ?_ rfl ⟨rfl, ?_⟩
    · unfold isec; rw [h]; simp [results, Tryz.results74, go_sem]
    · exact gb_alloc (gb_alloc (gb_alloc (gb_alloc (gb_refl _ _) _) _) _) _
  · rename_i h
    refine bodyPost_ret (v := isec x0 y0 x1 y1 u0 v0 u1 v1) ?_ rfl ⟨rfl, ?_⟩
    · unfold isec; rw [h]; simp [results, Tryz.results74, go_sem]
    · exact gb_alloc (gb_alloc (gb_alloc (gb_alloc (gb_refl _ _) _) _) _) _
end Go.Proofs.YtgjpohmjkhgpfaaGreat
