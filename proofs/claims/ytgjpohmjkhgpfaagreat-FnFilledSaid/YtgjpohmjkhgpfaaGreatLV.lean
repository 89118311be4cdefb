/- The reference's Valid, at all kinds but Uniform. No condition. -/
import Derived.Test.YtgjpohmjkhgpfaaGreatLH
set_option linter.unusedSimpArgs false
set_option linter.unusedVariables false
namespace Go.Proofs.YtgjpohmjkhgpfaaGreat
open Go.RowKit

/-- what Valid says of an image whose pixels are of s bytes -/
def VF (s : Nat) (P : Prop) (x0 y0 x1 y1 : Int) (n : Nat) : Prop :=
  (x0 ≤ x1 ∧ y0 ≤ y1 ∧ -64 ≤ x0 ∧ -64 ≤ y0 ∧ x1 ≤ 64 ∧ y1 ≤ 64) ∧ (n : Int) = (x1 - x0) * (y1 - y0) * s ∧ P
set_option maxRecDepth 100000 in
set_option maxHeartbeats 8000000 in
theorem valid_of {k x0 y0 x1 y1 : Int} {A : Option Addr} {n c s : Nat} {P : Prop} (w : World) (hk0 : 0 ≤ k) (hk : k < 6) (hs : s ≤ 8) (hn : n ≤ 2147483647)
    (hsize : ∀ w, Calls Tryz.prog 27 #[.int .i64 k] w fun e w' => e = .returned (.int .i64 s) ∧ w = w')
    (hmul : ∀ w', w.grownBy w' none → Calls Tryz.prog 30 #[vI k x0 y0 x1 y1 A n c] w' (BoolOut w' P)) :
    Calls Tryz.prog 16 #[vI k x0 y0 x1 y1 A n c, .int .i64 64] w (BoolOut w (VF s P x0 y0 x1 y1 n)) := by
  have hk6 : k ≠ 6 := by omega
  have k0 : ¬ (k < 0) := by omega
  have k7 : ¬ (7 ≤ k) := by omega
  have kb : (k == 6) = false := beq_eq_false_iff_ne.2 hk6
  have HMU := hid hmul
  have HSI := hid hsize
  clear hmul hk hk0
  by_cases h0 : x1 < x0
  · go_enter Tryz.func16, Tryz.ntmps16
    go_wp2_with (first | (go_at_call 27; refine (hsize _).mono ?_; rintro e w1 ⟨rfl, rfl⟩) | (go_at_call 19; refine (sbounds_c k x0 y0 x1 y1 A n c _).mono ?_; rintro e w1 ⟨rfl, hg⟩; (have hd : decide (k = 6) = false := by simpa using hk6); rw [hd]; (have HG := hid (gb_trans (gb_alloc (gb_refl w none) _) hg)); (have z1 := hg.size); (simp at z1); (have z2 : w.heap.size < w1.heap.size := by omega); (obtain ⟨cc, ff⟩ := gb_rules hg); clear hg hd))
    go_ret
    exact ⟨false, rfl, fun h => Bool.noConfusion h, gb_alloc HG.out _⟩
  by_cases h1 : y1 < y0
  · go_enter Tryz.func16, Tryz.ntmps16
    go_wp2_with (first | (go_at_call 27; refine (hsize _).mono ?_; rintro e w1 ⟨rfl, rfl⟩) | (go_at_call 19; refine (sbounds_c k x0 y0 x1 y1 A n c _).mono ?_; rintro e w1 ⟨rfl, hg⟩; (have hd : decide (k = 6) = false := by simpa using hk6); rw [hd]; (have HG := hid (gb_trans (gb_alloc (gb_refl w none) _) hg)); (have z1 := hg.size); (simp at z1); (have z2 : w.heap.size < w1.heap.size := by omega); (obtain ⟨cc, ff⟩ := gb_rules hg); clear hg hd))
    go_ret
    exact ⟨false, rfl, fun h => Bool.noConfusion h, gb_alloc HG.out _⟩
  by_cases h2 : x0 < -64
  · go_enter Tryz.func16, Tryz.ntmps16
    go_wp2_with (first | (go_at_call 27; refine (hsize _).mono ?_; rintro e w1 ⟨rfl, rfl⟩) | (go_at_call 19; refine (sbounds_c k x0 y0 x1 y1 A n c _).mono ?_; rintro e w1 ⟨rfl, hg⟩; (have hd : decide (k = 6) = false := by simpa using hk6); rw [hd]; (have HG := hid (gb_trans (gb_alloc (gb_refl w none) _) hg)); (have z1 := hg.size); (simp at z1); (have z2 : w.heap.size < w1.heap.size := by omega); (obtain ⟨cc, ff⟩ := gb_rules hg); clear hg hd))
    go_ret
    exact ⟨false, rfl, fun h => Bool.noConfusion h, gb_alloc HG.out _⟩
  by_cases h3 : y0 < -64
  · go_enter Tryz.func16, Tryz.ntmps16
    go_wp2_with (first | (go_at_call 27; refine (hsize _).mono ?_; rintro e w1 ⟨rfl, rfl⟩) | (go_at_call 19; refine (sbounds_c k x0 y0 x1 y1 A n c _).mono ?_; rintro e w1 ⟨rfl, hg⟩; (have hd : decide (k = 6) = false := by simpa using hk6); rw [hd]; (have HG := hid (gb_trans (gb_alloc (gb_refl w none) _) hg)); (have z1 := hg.size); (simp at z1); (have z2 : w.heap.size < w1.heap.size := by omega); (obtain ⟨cc, ff⟩ := gb_rules hg); clear hg hd))
    go_ret
    exact ⟨false, rfl, fun h => Bool.noConfusion h, gb_alloc HG.out _⟩
  by_cases h4 : 64 < x1
  · go_enter Tryz.func16, Tryz.ntmps16
    go_wp2_with (first | (go_at_call 27; refine (hsize _).mono ?_; rintro e w1 ⟨rfl, rfl⟩) | (go_at_call 19; refine (sbounds_c k x0 y0 x1 y1 A n c _).mono ?_; rintro e w1 ⟨rfl, hg⟩; (have hd : decide (k = 6) = false := by simpa using hk6); rw [hd]; (have HG := hid (gb_trans (gb_alloc (gb_refl w none) _) hg)); (have z1 := hg.size); (simp at z1); (have z2 : w.heap.size < w1.heap.size := by omega); (obtain ⟨cc, ff⟩ := gb_rules hg); clear hg hd))
    go_ret
    exact ⟨false, rfl, fun h => Bool.noConfusion h, gb_alloc HG.out _⟩
  by_cases h5 : 64 < y1
  · go_enter Tryz.func16, Tryz.ntmps16
    go_wp2_with (first | (go_at_call 27; refine (hsize _).mono ?_; rintro e w1 ⟨rfl, rfl⟩) | (go_at_call 19; refine (sbounds_c k x0 y0 x1 y1 A n c _).mono ?_; rintro e w1 ⟨rfl, hg⟩; (have hd : decide (k = 6) = false := by simpa using hk6); rw [hd]; (have HG := hid (gb_trans (gb_alloc (gb_refl w none) _) hg)); (have z1 := hg.size); (simp at z1); (have z2 : w.heap.size < w1.heap.size := by omega); (obtain ⟨cc, ff⟩ := gb_rules hg); clear hg hd))
    go_ret
    exact ⟨false, rfl, fun h => Bool.noConfusion h, gb_alloc HG.out _⟩
  obtain ⟨u, hu⟩ := Int.eq_ofNat_of_zero_le (show 0 ≤ x1 - x0 by omega)
  obtain ⟨v, hv⟩ := Int.eq_ofNat_of_zero_le (show 0 ≤ y1 - y0 by omega)
  obtain ⟨m, hm⟩ : ∃ m : Nat, u * v = m := ⟨_, rfl⟩
  have f1 : (u : Int) * v = m := by rw [← hm]; push_cast; rfl
  have hm2 : m ≤ 16384 := by rw [← hm]; exact Nat.mul_le_mul (show u ≤ 128 by omega) (show v ≤ 128 by omega)
  obtain ⟨t, ht⟩ : ∃ t : Nat, m * s = t := ⟨_, rfl⟩
  have f2 : (m : Int) * s = t := by rw [← ht]; push_cast; rfl
  have ht2 : t ≤ 131072 := by rw [← ht]; exact Nat.mul_le_mul hm2 hs
  have HU := hid hu
  have HV := hid hv
  have HM := hid (And.intro h0 (And.intro h1 (And.intro h2 (And.intro h3 (And.intro h4 h5)))))
  have Hf := hid f1
  have Hf2 := hid f2
  clear hm ht
  by_cases h6 : n = t
  · subst h6
    go_enter Tryz.func16, Tryz.ntmps16
    go_wp2_with (first | (go_at_call 27; refine (hsize _).mono ?_; rintro e w1 ⟨rfl, rfl⟩) | (go_at_call 19; refine (sbounds_c k x0 y0 x1 y1 A n c _).mono ?_; rintro e w1 ⟨rfl, hg⟩; (have hd : decide (k = 6) = false := by simpa using hk6); rw [hd]; (have HG := hid (gb_trans (gb_alloc (gb_refl w none) _) hg)); (have z1 := hg.size); (simp at z1); (have z2 : w.heap.size < w1.heap.size := by omega); (obtain ⟨cc, ff⟩ := gb_rules hg); (have q0 : w1.cell? ⟨w.heap.size, 0, none⟩ = some (.int .i64 k) := (cc _ _ (by simp)).trans (by go_simp)); (have q1 : w1.cell? ⟨w.heap.size, 1, none⟩ = some (.int .i64 x0) := (cc _ _ (by simp)).trans (by go_simp)); (have q2 : w1.cell? ⟨w.heap.size, 2, none⟩ = some (.int .i64 y0) := (cc _ _ (by simp)).trans (by go_simp)); (have q3 : w1.cell? ⟨w.heap.size, 3, none⟩ = some (.int .i64 x1) := (cc _ _ (by simp)).trans (by go_simp)); (have q4 : w1.cell? ⟨w.heap.size, 4, none⟩ = some (.int .i64 y1) := (cc _ _ (by simp)).trans (by go_simp)); (have q5 : w1.cell? ⟨w.heap.size, 5, none⟩ = some (.slice A n c) := (cc _ _ (by simp)).trans (by go_simp)); clear hg hd cc ff) | (go_at_call 30; refine (HMU.out _ (gb_alloc HG.out _)).mono ?_; rintro e w2 ⟨bb, rfl, hbb, hg2⟩; (have HG2 := hid (gb_trans (gb_alloc HG.out _) hg2)); (have HB2 := hid hbb); clear hg2 hbb))
    go_ret
    exact ⟨_, rfl, fun h => ⟨HM.out, by rw [HU.out, HV.out, Hf.out, Hf2.out], HB2.out h⟩, HG2.out⟩
  · have hb : ((n : Int) == (t : Int)) = false := by rw [beq_eq_false_iff_ne]; omega
    go_enter Tryz.func16, Tryz.ntmps16
    go_wp2_with (first | (go_at_call 27; refine (hsize _).mono ?_; rintro e w1 ⟨rfl, rfl⟩) | (go_at_call 19; refine (sbounds_c k x0 y0 x1 y1 A n c _).mono ?_; rintro e w1 ⟨rfl, hg⟩; (have hd : decide (k = 6) = false := by simpa using hk6); rw [hd]; (have HG := hid (gb_trans (gb_alloc (gb_refl w none) _) hg)); (have z1 := hg.size); (simp at z1); (have z2 : w.heap.size < w1.heap.size := by omega); (obtain ⟨cc, ff⟩ := gb_rules hg); (have q0 : w1.cell? ⟨w.heap.size, 0, none⟩ = some (.int .i64 k) := (cc _ _ (by simp)).trans (by go_simp)); (have q1 : w1.cell? ⟨w.heap.size, 1, none⟩ = some (.int .i64 x0) := (cc _ _ (by simp)).trans (by go_simp)); (have q2 : w1.cell? ⟨w.heap.size, 2, none⟩ = some (.int .i64 y0) := (cc _ _ (by simp)).trans (by go_simp)); (have q3 : w1.cell? ⟨w.heap.size, 3, none⟩ = some (.int .i64 x1) := (cc _ _ (by simp)).trans (by go_simp)); (have q4 : w1.cell? ⟨w.heap.size, 4, none⟩ = some (.int .i64 y1) := (cc _ _ (by simp)).trans (by go_simp)); (have q5 : w1.cell? ⟨w.heap.size, 5, none⟩ = some (.slice A n c) := (cc _ _ (by simp)).trans (by go_simp)); clear hg hd cc ff))
    go_ret
    exact ⟨false, rfl, fun h => Bool.noConfusion h, gb_alloc HG.out _⟩
end Go.Proofs.YtgjpohmjkhgpfaaGreat
