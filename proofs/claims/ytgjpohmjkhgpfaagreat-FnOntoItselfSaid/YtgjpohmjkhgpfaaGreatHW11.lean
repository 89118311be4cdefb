/- image: Rectangle.Overlaps: do two rectangles have a point in common. No condition. -/
import Derived.Test.YtgjpohmjkhgpfaaGreatD02
import Derived.Deep.RegionHeld3
set_option linter.unusedSimpArgs false
set_option linter.unusedVariables false
namespace Go.Proofs.YtgjpohmjkhgpfaaGreat
open Go.RowKit

def ovl (x0 y0 x1 y1 u0 v0 u1 v1 : Int) : Bool := !emp x0 y0 x1 y1 && (!emp u0 v0 u1 v1 && (decide (x0 < u1) && (decide (u0 < x1) && (decide (y0 < v1) && decide (v0 < y1)))))

set_option maxRecDepth 100000 in
set_option maxHeartbeats 4000000 in
theorem overlaps_c (x0 y0 x1 y1 u0 v0 u1 v1 : Int) (w : World) :
    Calls Tryz.prog 80 #[vR x0 y0 x1 y1, vR u0 v0 u1 v1] w fun e w' => e = .returned (.bool (ovl x0 y0 x1 y1 u0 v0 u1 v1)) ∧ w.grownBy w' none := by
  obtain ⟨b, hb⟩ : ∃ b, ovl x0 y0 x1 y1 u0 v0 u1 v1 = b := ⟨_, rfl⟩
  obtain ⟨e1, h1⟩ : ∃ e1, emp x0 y0 x1 y1 = e1 := ⟨_, rfl⟩
  obtain ⟨e2, h2⟩ : ∃ e2, emp u0 v0 u1 v1 = e2 := ⟨_, rfl⟩
  have hb' := hb
  unfold ovl at hb'
  rw [h1, h2] at hb'
  rw [hb]
  have Hb := hid hb
  clear hb
  have c1 := fun w => empty_c x0 y0 x1 y1 w
  have c2 := fun w => empty_c u0 v0 u1 v1 w
  rw [h1] at c1
  rw [h2] at c2
  have H1 := hid h1
  have H2 := hid h2
  clear h1 h2
  have C1 := hid c1
  have C2 := hid c2
  clear c1 c2
  cases e1
  · cases e2
    · by_cases g1 : x0 < u1
      · by_cases g2 : u0 < x1
        · by_cases g3 : y0 < v1
          · by_cases g4 : v0 < y1
            · simp [g1, g2, g3, g4] at hb'
              subst hb'
              go_enter Tryz.func80, Tryz.ntmps80
              go_wp2_with fail
              refine (C1.out _).mono ?_
              rintro e w1 ⟨rfl, rfl⟩
              go_wp2_with fail
              refine (C2.out _).mono ?_
              rintro e w1 ⟨rfl, rfl⟩
              go_wp2_with fail
              go_ret
              exact ⟨by first | rfl | simp [*], (by (repeat (first | exact gb_refl _ _ | refine gb_alloc ?_ _)))⟩
            · simp [g1, g2, g3, g4] at hb'
              subst hb'
              go_enter Tryz.func80, Tryz.ntmps80
              go_wp2_with fail
              refine (C1.out _).mono ?_
              rintro e w1 ⟨rfl, rfl⟩
              go_wp2_with fail
              refine (C2.out _).mono ?_
              rintro e w1 ⟨rfl, rfl⟩
              go_wp2_with fail
              go_ret
              exact ⟨by first | rfl | simp [*], (by (repeat (first | exact gb_refl _ _ | refine gb_alloc ?_ _)))⟩
          · simp [g1, g2, g3] at hb'
            subst hb'
            go_enter Tryz.func80, Tryz.ntmps80
            go_wp2_with fail
            refine (C1.out _).mono ?_
            rintro e w1 ⟨rfl, rfl⟩
            go_wp2_with fail
            refine (C2.out _).mono ?_
            rintro e w1 ⟨rfl, rfl⟩
            go_wp2_with fail
            go_ret
            exact ⟨by first | rfl | simp [*], (by (repeat (first | exact gb_refl _ _ | refine gb_alloc ?_ _)))⟩
        · simp [g1, g2] at hb'
          subst hb'
          go_enter Tryz.func80, Tryz.ntmps80
          go_wp2_with fail
          refine (C1.out _).mono ?_
          rintro e w1 ⟨rfl, rfl⟩
          go_wp2_with fail
          refine (C2.out _).mono ?_
          rintro e w1 ⟨rfl, rfl⟩
          go_wp2_with fail
          go_ret
          exact ⟨by first | rfl | simp [*], (by (repeat (first | exact gb_refl _ _ | refine gb_alloc ?_ _)))⟩
      · simp [g1] at hb'
        subst hb'
        go_enter Tryz.func80, Tryz.ntmps80
        go_wp2_with fail
        refine (C1.out _).mono ?_
        rintro e w1 ⟨rfl, rfl⟩
        go_wp2_with fail
        refine (C2.out _).mono ?_
        rintro e w1 ⟨rfl, rfl⟩
        go_wp2_with fail
        go_ret
        exact ⟨by first | rfl | simp [*], (by (repeat (first | exact gb_refl _ _ | refine gb_alloc ?_ _)))⟩
    · simp at hb'
      subst hb'
      go_enter Tryz.func80, Tryz.ntmps80
      go_wp2_with fail
      refine (C1.out _).mono ?_
      rintro e w1 ⟨rfl, rfl⟩
      go_wp2_with fail
      refine (C2.out _).mono ?_
      rintro e w1 ⟨rfl, rfl⟩
      go_wp2_with fail
      go_ret
      exact ⟨by first | rfl | simp [*], (by (repeat (first | exact gb_refl _ _ | refine gb_alloc ?_ _)))⟩
  · simp at hb'
    subst hb'
    go_enter Tryz.func80, Tryz.ntmps80
    go_wp2_with fail
    refine (C1.out _).mono ?_
    rintro e w1 ⟨rfl, rfl⟩
    go_wp2_with fail
    go_ret
    exact ⟨by first | rfl | simp [*], (by (repeat (first | exact gb_refl _ _ | refine gb_alloc ?_ _)))⟩
end Go.Proofs.YtgjpohmjkhgpfaaGreat
