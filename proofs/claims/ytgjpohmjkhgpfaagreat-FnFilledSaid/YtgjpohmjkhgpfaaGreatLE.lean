/- The reference's Valid, at kind RGBA. No condition. -/
import Derived.Test.YtgjpohmjkhgpfaaGreatLD
set_option linter.unusedSimpArgs false
set_option linter.unusedVariables false
namespace Go.Proofs.YtgjpohmjkhgpfaaGreat
open Go.RowKit

/-- what Valid says of an RGBA image -/
def VF0 (x0 y0 x1 y1 : Int) (n : Nat) (p : Nat → Int) : Prop :=
  (x0 ≤ x1 ∧ y0 ≤ y1 ∧ -64 ≤ x0 ∧ -64 ≤ y0 ∧ x1 ≤ 64 ∧ y1 ≤ 64) ∧ (n : Int) = (x1 - x0) * (y1 - y0) * 4 ∧ Mul0 p (n / 4)
set_option maxRecDepth 100000 in
set_option maxHeartbeats 8000000 in
theorem valid0_c {x0 y0 x1 y1 : Int} {A : Option Addr} {n c : Nat} {p : Nat → Int} (w : World) (h : Rd w A n p) (hp : By p) (hn : n ≤ 2147483647) (hc : n ≤ c) (hc2 : c ≤ 9223372036854775807) :
    Calls Tryz.prog 16 #[vI 0 x0 y0 x1 y1 A n c, .int .i64 64] w (BoolOut w (VF0 x0 y0 x1 y1 n p)) := by
  have H := hid h
  have HP := hid hp
  clear h hp
  by_cases h0 : x1 < x0
  · go_enter Tryz.func16, Tryz.ntmps16
    go_wp2_with (first | (go_at_call 27; refine (size0_c _).mono ?_; rintro e w1 ⟨rfl, rfl⟩) | (go_at_call 19; refine (sbounds_c 0 x0 y0 x1 y1 A n c _).mono ?_; rintro e w1 ⟨rfl, hg⟩; (have hd : decide ((0 : Int) = 6) = false := rfl); rw [hd]; (have HG := hid (gb_trans (gb_alloc (gb_refl w none) _) hg)); (have z1 := hg.size); (simp at z1); (have z2 : w.heap.size < w1.heap.size := by omega); (obtain ⟨cc, ff⟩ := gb_rules hg); clear hg hd))
    go_ret
    exact ⟨false, rfl, fun h => Bool.noConfusion h, gb_alloc HG.out _⟩
  by_cases h1 : y1 < y0
  · go_enter Tryz.func16, Tryz.ntmps16
    go_wp2_with (first | (go_at_call 27; refine (size0_c _).mono ?_; rintro e w1 ⟨rfl, rfl⟩) | (go_at_call 19; refine (sbounds_c 0 x0 y0 x1 y1 A n c _).mono ?_; rintro e w1 ⟨rfl, hg⟩; (have hd : decide ((0 : Int) = 6) = false := rfl); rw [hd]; (have HG := hid (gb_trans (gb_alloc (gb_refl w none) _) hg)); (have z1 := hg.size); (simp at z1); (have z2 : w.heap.size < w1.heap.size := by omega); (obtain ⟨cc, ff⟩ := gb_rules hg); clear hg hd))
    go_ret
    exact ⟨false, rfl, fun h => Bool.noConfusion h, gb_alloc HG.out _⟩
  by_cases h2 : x0 < -64
  · go_enter Tryz.func16, Tryz.ntmps16
    go_wp2_with (first | (go_at_call 27; refine (size0_c _).mono ?_; rintro e w1 ⟨rfl, rfl⟩) | (go_at_call 19; refine (sbounds_c 0 x0 y0 x1 y1 A n c _).mono ?_; rintro e w1 ⟨rfl, hg⟩; (have hd : decide ((0 : Int) = 6) = false := rfl); rw [hd]; (have HG := hid (gb_trans (gb_alloc (gb_refl w none) _) hg)); (have z1 := hg.size); (simp at z1); (have z2 : w.heap.size < w1.heap.size := by omega); (obtain ⟨cc, ff⟩ := gb_rules hg); clear hg hd))
    go_ret
    exact ⟨false, rfl, fun h => Bool.noConfusion h, gb_alloc HG.out _⟩
  by_cases h3 : y0 < -64
  · go_enter Tryz.func16, Tryz.ntmps16
    go_wp2_with (first | (go_at_call 27; refine (size0_c _).mono ?_; rintro e w1 ⟨rfl, rfl⟩) | (go_at_call 19; refine (sbounds_c 0 x0 y0 x1 y1 A n c _).mono ?_; rintro e w1 ⟨rfl, hg⟩; (have hd : decide ((0 : Int) = 6) = false := rfl); rw [hd]; (have HG := hid (gb_trans (gb_alloc (gb_refl w none) _) hg)); (have z1 := hg.size); (simp at z1); (have z2 : w.heap.size < w1.heap.size := by omega); (obtain ⟨cc, ff⟩ := gb_rules hg); clear hg hd))
    go_ret
    exact ⟨false, rfl, fun h => Bool.noConfusion h, gb_alloc HG.out _⟩
  by_cases h4 : 64 < x1
  · go_enter Tryz.func16, Tryz.ntmps16
    go_wp2_with (first | (go_at_call 27; refine (size0_c _).mono ?_; rintro e w1 ⟨rfl, rfl⟩) | (go_at_call 19; refine (sbounds_c 0 x0 y0 x1 y1 A n c _).mono ?_; rintro e w1 ⟨rfl, hg⟩; (have hd : decide ((0 : Int) = 6) = false := rfl); rw [hd]; (have HG := hid (gb_trans (gb_alloc (gb_refl w none) _) hg)); (have z1 := hg.size); (simp at z1); (have z2 : w.heap.size < w1.heap.size := by omega); (obtain ⟨cc, ff⟩ := gb_rules hg); clear hg hd))
    go_ret
    exact ⟨false, rfl, fun h => Bool.noConfusion h, gb_alloc HG.out _⟩
  by_cases h5 : 64 < y1
  · go_enter Tryz.func16, Tryz.ntmps16
    go_wp2_with (first | (go_at_call 27; refine (size0_c _).mono ?_; rintro e w1 ⟨rfl, rfl⟩) | (go_at_call 19; refine (sbounds_c 0 x0 y0 x1 y1 A n c _).mono ?_; rintro e w1 ⟨rfl, hg⟩; (have hd : decide ((0 : Int) = 6) = false := rfl); rw [hd]; (have HG := hid (gb_trans (gb_alloc (gb_refl w none) _) hg)); (have z1 := hg.size); (simp at z1); (have z2 : w.heap.size < w1.heap.size := by omega); (obtain ⟨cc, ff⟩ := gb_rules hg); clear hg hd))
    go_ret
    exact ⟨false, rfl, fun h => Bool.noConfusion h, gb_alloc HG.out _⟩
  obtain ⟨u, hu⟩ := Int.eq_ofNat_of_zero_le (show 0 ≤ x1 - x0 by omega)
  obtain ⟨v, hv⟩ := Int.eq_ofNat_of_zero_le (show 0 ≤ y1 - y0 by omega)
  obtain ⟨m, hm⟩ : ∃ m : Nat, u * v = m := ⟨_, rfl⟩
  have f1 : (u : Int) * v = m := by rw [← hm]; push_cast; rfl
  have hm2 : m ≤ 16384 := by rw [← hm]; exact Nat.mul_le_mul (show u ≤ 128 by omega) (show v ≤ 128 by omega)
  have HU := hid hu
  have HV := hid hv
  have HM := hid (And.intro h0 (And.intro h1 (And.intro h2 (And.intro h3 (And.intro h4 h5)))))
  have Hf := hid f1
  have HM0 := hid hm
  clear hm
  by_cases h6 : n = m * 4
  · subst h6
    have hb : (((m * 4 : Nat) : Int) == (m : Int) * 4) = true := by rw [beq_iff_eq]; push_cast; rfl
    go_enter Tryz.func16, Tryz.ntmps16
    go_wp2_with (first | (go_at_call 27; refine (size0_c _).mono ?_; rintro e w1 ⟨rfl, rfl⟩) | (go_at_call 19; refine (sbounds_c 0 x0 y0 x1 y1 A (m * 4) c _).mono ?_; rintro e w1 ⟨rfl, hg⟩; (have hd : decide ((0 : Int) = 6) = false := rfl); rw [hd]; (have HG := hid (gb_trans (gb_alloc (gb_refl w none) _) hg)); (have z1 := hg.size); (simp at z1); (have z2 : w.heap.size < w1.heap.size := by omega); (obtain ⟨cc, ff⟩ := gb_rules hg); (have q0 : w1.cell? ⟨w.heap.size, 0, none⟩ = some (.int .i64 0) := (cc _ _ (by simp)).trans (by go_simp)); (have q1 : w1.cell? ⟨w.heap.size, 1, none⟩ = some (.int .i64 x0) := (cc _ _ (by simp)).trans (by go_simp)); (have q2 : w1.cell? ⟨w.heap.size, 2, none⟩ = some (.int .i64 y0) := (cc _ _ (by simp)).trans (by go_simp)); (have q3 : w1.cell? ⟨w.heap.size, 3, none⟩ = some (.int .i64 x1) := (cc _ _ (by simp)).trans (by go_simp)); (have q4 : w1.cell? ⟨w.heap.size, 4, none⟩ = some (.int .i64 y1) := (cc _ _ (by simp)).trans (by go_simp)); (have q5 : w1.cell? ⟨w.heap.size, 5, none⟩ = some (.slice A (m * 4) c) := (cc _ _ (by simp)).trans (by go_simp)); clear hg hd cc ff) | (go_at_call 30; refine (mult0_c _ (H.out.kept0 (gb_alloc HG.out _)) HP.out (by omega) (by omega) (by omega)).mono ?_; rintro e w2 ⟨bb, rfl, hbb, hg2⟩; (have HG2 := hid (gb_trans (gb_alloc HG.out _) hg2)); (have HB2 := hid hbb); clear hg2 hbb))
    go_ret
    exact ⟨_, rfl, fun h => ⟨HM.out, by rw [HU.out, HV.out, Hf.out]; push_cast; rfl, HB2.out h⟩, HG2.out⟩
  · have hb : ((n : Int) == (m : Int) * 4) = false := by rw [beq_eq_false_iff_ne]; omega
    go_enter Tryz.func16, Tryz.ntmps16
    go_wp2_with (first | (go_at_call 27; refine (size0_c _).mono ?_; rintro e w1 ⟨rfl, rfl⟩) | (go_at_call 19; refine (sbounds_c 0 x0 y0 x1 y1 A n c _).mono ?_; rintro e w1 ⟨rfl, hg⟩; (have hd : decide ((0 : Int) = 6) = false := rfl); rw [hd]; (have HG := hid (gb_trans (gb_alloc (gb_refl w none) _) hg)); (have z1 := hg.size); (simp at z1); (have z2 : w.heap.size < w1.heap.size := by omega); (obtain ⟨cc, ff⟩ := gb_rules hg); (have q0 : w1.cell? ⟨w.heap.size, 0, none⟩ = some (.int .i64 0) := (cc _ _ (by simp)).trans (by go_simp)); (have q1 : w1.cell? ⟨w.heap.size, 1, none⟩ = some (.int .i64 x0) := (cc _ _ (by simp)).trans (by go_simp)); (have q2 : w1.cell? ⟨w.heap.size, 2, none⟩ = some (.int .i64 y0) := (cc _ _ (by simp)).trans (by go_simp)); (have q3 : w1.cell? ⟨w.heap.size, 3, none⟩ = some (.int .i64 x1) := (cc _ _ (by simp)).trans (by go_simp)); (have q4 : w1.cell? ⟨w.heap.size, 4, none⟩ = some (.int .i64 y1) := (cc _ _ (by simp)).trans (by go_simp)); (have q5 : w1.cell? ⟨w.heap.size, 5, none⟩ = some (.slice A n c) := (cc _ _ (by simp)).trans (by go_simp)); clear hg hd cc ff))
    go_ret
    exact ⟨false, rfl, fun h => Bool.noConfusion h, gb_alloc HG.out _⟩
end Go.Proofs.YtgjpohmjkhgpfaaGreat
