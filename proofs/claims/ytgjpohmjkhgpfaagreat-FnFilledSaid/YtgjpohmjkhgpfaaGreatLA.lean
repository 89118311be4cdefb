/- The laws' small functions: sizes, rectangles, places. No condition. -/
import Derived.Test.YtgjpohmjkhgpfaaGreatN1
import Derived.WalkLawsBesides
import Derived.WalkSpells
set_option linter.unusedSimpArgs false
set_option linter.unusedVariables false
namespace Go.Proofs.YtgjpohmjkhgpfaaGreat
open Go.RowKit

set_option maxRecDepth 100000 in
set_option maxHeartbeats 2000000 in
theorem fits_y {k x0 y0 x1 y1 : Int} {A : Option Addr} {n c : Nat} (w : World) (h : n ≤ 2147483647) :
    Calls Tryz.prog 13 #[vI k x0 y0 x1 y1 A n c] w fun e w' => e = .returned (.bool true) ∧ w.grownBy w' none := by
  have h' : ¬ (2147483647 < n) := by omega
  go_enter Tryz.func13, Tryz.ntmps13
  go_wp2
  go_ret
  exact ⟨rfl, gb_alloc (gb_refl _ _) _⟩
set_option maxRecDepth 100000 in
set_option maxHeartbeats 2000000 in
theorem fits_n {k x0 y0 x1 y1 : Int} {A : Option Addr} {n c : Nat} (w : World) (h : ¬ n ≤ 2147483647) :
    Calls Tryz.prog 13 #[vI k x0 y0 x1 y1 A n c] w fun e w' => e = .returned (.bool false) ∧ w.grownBy w' none := by
  have h' : 2147483647 < n := by omega
  clear h
  go_enter Tryz.func13, Tryz.ntmps13
  go_wp2
  go_ret
  exact ⟨rfl, gb_alloc (gb_refl _ _) _⟩

/-- within 1000 of 0 -/
def nr (x : Int) : Prop := -1000 ≤ x ∧ x ≤ 1000
def BoolOut (w : World) (P : Prop) (e : Ending) (w' : World) : Prop := ∃ b, e = .returned (.bool b) ∧ (b = true → P) ∧ w.grownBy w' none
def RectOut (w : World) (r0 r1 r2 r3 : Int) (e : Ending) (w' : World) : Prop :=
  ∃ b q0 q1 q2 q3, e = .returned (.tuple #[vR q0 q1 q2 q3, .bool b]) ∧ (b = true → (nr r0 ∧ nr r1 ∧ nr r2 ∧ nr r3) ∧ q0 = r0 ∧ q1 = r1 ∧ q2 = r2 ∧ q3 = r3) ∧ w.grownBy w' none

set_option maxRecDepth 100000 in
set_option maxHeartbeats 4000000 in
theorem lrect_c (r0 r1 r2 r3 : Int) (w : World) : Calls Tryz.prog 14 #[vR r0 r1 r2 r3] w (RectOut w r0 r1 r2 r3) := by
  have i0 : ∀ w, (Instr.index 25 (.agg #[.int .i64 r0, .int .i64 r1, .int .i64 r2, .int .i64 r3]) (.int .i64 0)).run Tryz.prog w = .ok (.int .i64 r0) w := fun _ => by kernel_rfl
  have i1 : ∀ w, (Instr.index 25 (.agg #[.int .i64 r0, .int .i64 r1, .int .i64 r2, .int .i64 r3]) (.int .i64 1)).run Tryz.prog w = .ok (.int .i64 r1) w := fun _ => by kernel_rfl
  have i2 : ∀ w, (Instr.index 25 (.agg #[.int .i64 r0, .int .i64 r1, .int .i64 r2, .int .i64 r3]) (.int .i64 2)).run Tryz.prog w = .ok (.int .i64 r2) w := fun _ => by kernel_rfl
  have i3 : ∀ w, (Instr.index 25 (.agg #[.int .i64 r0, .int .i64 r1, .int .i64 r2, .int .i64 r3]) (.int .i64 3)).run Tryz.prog w = .ok (.int .i64 r3) w := fun _ => by kernel_rfl
  go_enter Tryz.func14, Tryz.ntmps14
  go_wp2
  go_loop [7] (fun u => u = .int .i64 0 ∨ (u = .int .i64 1 ∧ nr r0) ∨ (u = .int .i64 2 ∧ nr r0 ∧ nr r1) ∨ (u = .int .i64 3 ∧ nr r0 ∧ nr r1 ∧ nr r2) ∨ (u = .int .i64 4 ∧ nr r0 ∧ nr r1 ∧ nr r2 ∧ nr r3)) (fun u => (4 - intOf u).toNat)
  case atStart => exact .inl rfl
  case round =>
    rcases hrel with rfl | ⟨rfl, h0⟩ | ⟨rfl, h0, h1⟩ | ⟨rfl, h0, h1, h2⟩ | ⟨rfl, h0, h1, h2, h3⟩
    · by_cases g1 : r0 < -1000
      · go_wp2
        exact bodyPost_ret (v := .tuple #[vR 0 0 0 0, .bool false]) (by simp [results, Tryz.results14, go_sem]) rfl ⟨false, 0, 0, 0, 0, rfl, fun h => Bool.noConfusion h, by (repeat (first | exact gb_refl _ _ | refine gb_alloc ?_ _ | refine gb_setCell ?_ (.inr (by simp <;> omega)) _))⟩
      · by_cases g2 : 1000 < r0
        · go_wp2
          exact bodyPost_ret (v := .tuple #[vR 0 0 0 0, .bool false]) (by simp [results, Tryz.results14, go_sem]) rfl ⟨false, 0, 0, 0, 0, rfl, fun h => Bool.noConfusion h, by (repeat (first | exact gb_refl _ _ | refine gb_alloc ?_ _ | refine gb_setCell ?_ (.inr (by simp <;> omega)) _))⟩
        · go_wp2
          go_round
          case rel => exact .inr (.inl ⟨by first | rfl | go_num, ⟨by omega, by omega⟩⟩)
          case measure => simp [intOf]
    · by_cases g1 : r1 < -1000
      · go_wp2
        exact bodyPost_ret (v := .tuple #[vR 0 0 0 0, .bool false]) (by simp [results, Tryz.results14, go_sem]) rfl ⟨false, 0, 0, 0, 0, rfl, fun h => Bool.noConfusion h, by (repeat (first | exact gb_refl _ _ | refine gb_alloc ?_ _ | refine gb_setCell ?_ (.inr (by simp <;> omega)) _))⟩
      · by_cases g2 : 1000 < r1
        · go_wp2
          exact bodyPost_ret (v := .tuple #[vR 0 0 0 0, .bool false]) (by simp [results, Tryz.results14, go_sem]) rfl ⟨false, 0, 0, 0, 0, rfl, fun h => Bool.noConfusion h, by (repeat (first | exact gb_refl _ _ | refine gb_alloc ?_ _ | refine gb_setCell ?_ (.inr (by simp <;> omega)) _))⟩
        · go_wp2
          go_round
          case rel => exact .inr (.inr (.inl ⟨by first | rfl | go_num, h0, ⟨by omega, by omega⟩⟩))
          case measure => simp [intOf]
    · by_cases g1 : r2 < -1000
      · go_wp2
        exact bodyPost_ret (v := .tuple #[vR 0 0 0 0, .bool false]) (by simp [results, Tryz.results14, go_sem]) rfl ⟨false, 0, 0, 0, 0, rfl, fun h => Bool.noConfusion h, by (repeat (first | exact gb_refl _ _ | refine gb_alloc ?_ _ | refine gb_setCell ?_ (.inr (by simp <;> omega)) _))⟩
      · by_cases g2 : 1000 < r2
        · go_wp2
          exact bodyPost_ret (v := .tuple #[vR 0 0 0 0, .bool false]) (by simp [results, Tryz.results14, go_sem]) rfl ⟨false, 0, 0, 0, 0, rfl, fun h => Bool.noConfusion h, by (repeat (first | exact gb_refl _ _ | refine gb_alloc ?_ _ | refine gb_setCell ?_ (.inr (by simp <;> omega)) _))⟩
        · go_wp2
          go_round
          case rel => exact .inr (.inr (.inr (.inl ⟨by first | rfl | go_num, h0, h1, ⟨by omega, by omega⟩⟩)))
          case measure => simp [intOf]
    · by_cases g1 : r3 < -1000
      · go_wp2
        exact bodyPost_ret (v := .tuple #[vR 0 0 0 0, .bool false]) (by simp [results, Tryz.results14, go_sem]) rfl ⟨false, 0, 0, 0, 0, rfl, fun h => Bool.noConfusion h, by (repeat (first | exact gb_refl _ _ | refine gb_alloc ?_ _ | refine gb_setCell ?_ (.inr (by simp <;> omega)) _))⟩
      · by_cases g2 : 1000 < r3
        · go_wp2
          exact bodyPost_ret (v := .tuple #[vR 0 0 0 0, .bool false]) (by simp [results, Tryz.results14, go_sem]) rfl ⟨false, 0, 0, 0, 0, rfl, fun h => Bool.noConfusion h, by (repeat (first | exact gb_refl _ _ | refine gb_alloc ?_ _ | refine gb_setCell ?_ (.inr (by simp <;> omega)) _))⟩
        · go_wp2
          go_round
          case rel => exact .inr (.inr (.inr (.inr (⟨by first | rfl | go_num, h0, h1, h2, ⟨by omega, by omega⟩⟩))))
          case measure => simp [intOf]
    · go_wp2
      exact bodyPost_ret (v := .tuple #[vR r0 r1 r2 r3, .bool true]) (by simp [results, Tryz.results14, go_sem]) rfl ⟨true, r0, r1, r2, r3, rfl, fun _ => ⟨⟨h0, h1, h2, h3⟩, rfl, rfl, rfl, rfl⟩, by (repeat (first | exact gb_refl _ _ | refine gb_alloc ?_ _ | refine gb_setCell ?_ (.inr (by simp <;> omega)) _))⟩
end Go.Proofs.YtgjpohmjkhgpfaaGreat
