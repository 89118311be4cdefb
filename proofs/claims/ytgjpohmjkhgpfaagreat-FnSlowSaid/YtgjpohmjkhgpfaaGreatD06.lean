/- Parts of the proof: what the functions of the package and of the reference do (LE, LI, MN). No condition but those that each theorem names. -/
import Derived.Test.YtgjpohmjkhgpfaaGreatD01
import Derived.Test.YtgjpohmjkhgpfaaGreatD04
import Derived.Test.YtgjpohmjkhgpfaaGreatD05
set_option linter.unusedSimpArgs false
set_option linter.unusedVariables false
namespace Go.Proofs.YtgjpohmjkhgpfaaGreat
open Go.RowKit

/-- what Valid says of an RGBA image -/
def VF0 (x0 y0 x1 y1 : Int) (n : Nat) (p : Nat → Int) : Prop :=
  (x0 ≤ x1 ∧ y0 ≤ y1 ∧ -64 ≤ x0 ∧ -64 ≤ y0 ∧ x1 ≤ 64 ∧ y1 ≤ 64) ∧ (n : Int) = (x1 - x0) * (y1 - y0) * 4 ∧ Mul0 p (n / 4)
set_option maxRecDepth 100000 in
set_option maxHeartbeats 8000000 in
theorem valid0_c {x0 y0 x1 y1 : Int} {A : Option Addr} {n c : Nat} {p : Nat → Int} (w : World) (h : Rd w A n p) (hp : By p) (hn : n ≤ 2147483647) (hc : n ≤ c) (hc2 : c ≤ 9223372036854775807) :
    Calls Tryz.prog 16 #[vI 0 x0 y0 x1 y1 A n c, .int .i64 64] w (BoolOut w (VF0 x0 y0 x1 y1 n p)) := by
  have H := hid h
  have HP := hid hp
  clear h hp
  by_cases h0 : x1 < x0
  · go_enter Tryz.func16, Tryz.ntmps16
    go_wp2_with (first | (go_at_call 27; refine (size0_c _).mono ?_; rintro e w1 ⟨rfl, rfl⟩) | (go_at_call 19; refine (sbounds_c 0 x0 y0 x1 y1 A n c _).mono ?_; rintro e w1 ⟨rfl, hg⟩; (have hd : decide ((0 : Int) = 6) = false := rfl); rw [hd]; (have HG := hid (gb_trans (gb_alloc (gb_refl w none) _) hg)); (have z1 := hg.size); (simp at z1); (have z2 : w.heap.size < w1.heap.size := by omega); (obtain ⟨cc, ff⟩ := gb_rules hg); clear hg hd))
    go_ret
    exact ⟨false, rfl, fun h => Bool.noConfusion h, gb_alloc HG.out _⟩
  by_cases h1 : y1 < y0
  · go_enter Tryz.func16, Tryz.ntmps16
    go_wp2_with (first | (go_at_call 27; refine (size0_c _).mono ?_; rintro e w1 ⟨rfl, rfl⟩) | (go_at_call 19; refine (sbounds_c 0 x0 y0 x1 y1 A n c _).mono ?_; rintro e w1 ⟨rfl, hg⟩; (have hd : decide ((0 : Int) = 6) = false := rfl); rw [hd]; (have HG := hid (gb_trans (gb_alloc (gb_refl w none) _) hg)); (have z1 := hg.size); (simp at z1); (have z2 : w.heap.size < w1.heap.size := by omega); (obtain ⟨cc, ff⟩ := gb_rules hg); clear hg hd))
    go_ret
    exact ⟨false, rfl, fun h => Bool.noConfusion h, gb_alloc HG.out _⟩
  by_cases h2 : x0 < -64
  · go_enter Tryz.func16, Tryz.ntmps16
    go_wp2_with (first | (go_at_call 27; refine (size0_c _).mono ?_; rintro e w1 ⟨rfl, rfl⟩) | (go_at_call 19; refine (sbounds_c 0 x0 y0 x1 y1 A n c _).mono ?_; rintro e w1 ⟨rfl, hg⟩; (have hd : decide ((0 : Int) = 6) = false := rfl); rw [hd]; (have HG := hid (gb_trans (gb_alloc (gb_refl w none) _) hg)); (have z1 := hg.size); (simp at z1); (have z2 : w.heap.size < w1.heap.size := by omega); (obtain ⟨cc, ff⟩ := gb_rules hg); clear hg hd))
    go_ret
    exact ⟨false, rfl, fun h => Bool.noConfusion h, gb_alloc HG.out _⟩
  by_cases h3 : y0 < -64
  · go_enter Tryz.func16, Tryz.ntmps16
    go_wp2_with (first | (go_at_call 27; refine (size0_c _).mono ?_; rintro e w1 ⟨rfl, rfl⟩) | (go_at_call 19; refine (sbounds_c 0 x0 y0 x1 y1 A n c _).mono ?_; rintro e w1 ⟨rfl, hg⟩; (have hd : decide ((0 : Int) = 6) = false := rfl); rw [hd]; (have HG := hid (gb_trans (gb_alloc (gb_refl w none) _) hg)); (have z1 := hg.size); (simp at z1); (have z2 : w.heap.size < w1.heap.size := by omega); (obtain ⟨cc, ff⟩ := gb_rules hg); clear hg hd))
    go_ret
    exact ⟨false, rfl, fun h => Bool.noConfusion h, gb_alloc HG.out _⟩
  by_cases h4 : 64 < x1
  · go_enter Tryz.func16, Tryz.ntmps16
    go_wp2_with (first | (go_at_call 27; refine (size0_c _).mono ?_; rintro e w1 ⟨rfl, rfl⟩) | (go_at_call 19; refine (sbounds_c 0 x0 y0 x1 y1 A n c _).mono ?_; rintro e w1 ⟨rfl, hg⟩; (have hd : decide ((0 : Int) = 6) = false := rfl); rw [hd]; (have HG := hid (gb_trans (gb_alloc (gb_refl w none) _) hg)); (have z1 := hg.size); (simp at z1); (have z2 : w.heap.size < w1.heap.size := by omega); (obtain ⟨cc, ff⟩ := gb_rules hg); clear hg hd))
    go_ret
    exact ⟨false, rfl, fun h => Bool.noConfusion h, gb_alloc HG.out _⟩
  by_cases h5 : 64 < y1
  · go_enter Tryz.func16, Tryz.ntmps16
    go_wp2_with (first | (go_at_call 27; refine (size0_c _).mono ?_; rintro e w1 ⟨rfl, rfl⟩) | (go_at_call 19; refine (sbounds_c 0 x0 y0 x1 y1 A n c _).mono ?_; rintro e w1 ⟨rfl, hg⟩; (have hd : decide ((0 : Int) = 6) = false := rfl); rw [hd]; (have HG := hid (gb_trans (gb_alloc (gb_refl w none) _) hg)); (have z1 := hg.size); (simp at z1); (have z2 : w.heap.size < w1.heap.size := by omega); (obtain ⟨cc, ff⟩ := gb_rules hg); clear hg hd))
    go_ret
    exact ⟨false, rfl, fun h => Bool.noConfusion h, gb_alloc HG.out _⟩
  obtain ⟨u, hu⟩ := Int.eq_ofNat_of_zero_le (show 0 ≤ x1 - x0 by omega)
  obtain ⟨v, hv⟩ := Int.eq_ofNat_of_zero_le (show 0 ≤ y1 - y0 by omega)
  obtain ⟨m, hm⟩ : ∃ m : Nat, u * v = m := ⟨_, rfl⟩
  have f1 : (u : Int) * v = m := by rw [← hm]; push_cast; rfl
  have hm2 : m ≤ 16384 := by rw [← hm]; exact Nat.mul_le_mul (show u ≤ 128 by omega) (show v ≤ 128 by omega)
  have HU := hid hu
  have HV := hid hv
  have HM := hid (And.intro h0 (And.intro h1 (And.intro h2 (And.intro h3 (And.intro h4 h5)))))
  have Hf := hid f1
  have HM0 := hid hm
  clear hm
  by_cases h6 : n = m * 4
  · subst h6
    have hb : (((m * 4 : Nat) : Int) == (m : Int) * 4) = true := by rw [beq_iff_eq]; push_cast; rfl
    go_enter Tryz.func16, Tryz.ntmps16
    go_wp2_with (first | (go_at_call 27; refine (size0_c _).mono ?_; rintro e w1 ⟨rfl, rfl⟩) | (go_at_call 19; refine (sbounds_c 0 x0 y0 x1 y1 A (m * 4) c _).mono ?_; rintro e w1 ⟨rfl, hg⟩; (have hd : decide ((0 : Int) = 6) = false := rfl); rw [hd]; (have HG := hid (gb_trans (gb_alloc (gb_refl w none) _) hg)); (have z1 := hg.size); (simp at z1); (have z2 : w.heap.size < w1.heap.size := by omega); (obtain ⟨cc, ff⟩ := gb_rules hg); (have q0 : w1.cell? ⟨w.heap.size, 0, none⟩ = some (.int .i64 0) := (cc _ _ (by simp)).trans (by go_simp)); (have q1 : w1.cell? ⟨w.heap.size, 1, none⟩ = some (.int .i64 x0) := (cc _ _ (by simp)).trans (by go_simp)); (have q2 : w1.cell? ⟨w.heap.size, 2, none⟩ = some (.int .i64 y0) := (cc _ _ (by simp)).trans (by go_simp)); (have q3 : w1.cell? ⟨w.heap.size, 3, none⟩ = some (.int .i64 x1) := (cc _ _ (by simp)).trans (by go_simp)); (have q4 : w1.cell? ⟨w.heap.size, 4, none⟩ = some (.int .i64 y1) := (cc _ _ (by simp)).trans (by go_simp)); (have q5 : w1.cell? ⟨w.heap.size, 5, none⟩ = some (.slice A (m * 4) c) := (cc _ _ (by simp)).trans (by go_simp)); clear hg hd cc ff) | (go_at_call 30; refine (mult0_c _ (H.out.kept0 (gb_alloc HG.out _)) HP.out (by omega) (by omega) (by omega)).mono ?_; rintro e w2 ⟨bb, rfl, hbb, hg2⟩; (have HG2 := hid (gb_trans (gb_alloc HG.out _) hg2)); (have HB2 := hid hbb); clear hg2 hbb))
    go_ret
    exact ⟨_, rfl, fun h => ⟨HM.out, by rw [HU.out, HV.out, Hf.out]; push_cast; rfl, HB2.out h⟩, HG2.out⟩
  · have hb : ((n : Int) == (m : Int) * 4) = false := by rw [beq_eq_false_iff_ne]; omega
    go_enter Tryz.func16, Tryz.ntmps16
    go_wp2_with (first | (go_at_call 27; refine (size0_c _).mono ?_; rintro e w1 ⟨rfl, rfl⟩) | (go_at_call 19; refine (sbounds_c 0 x0 y0 x1 y1 A n c _).mono ?_; rintro e w1 ⟨rfl, hg⟩; (have hd : decide ((0 : Int) = 6) = false := rfl); rw [hd]; (have HG := hid (gb_trans (gb_alloc (gb_refl w none) _) hg)); (have z1 := hg.size); (simp at z1); (have z2 : w.heap.size < w1.heap.size := by omega); (obtain ⟨cc, ff⟩ := gb_rules hg); (have q0 : w1.cell? ⟨w.heap.size, 0, none⟩ = some (.int .i64 0) := (cc _ _ (by simp)).trans (by go_simp)); (have q1 : w1.cell? ⟨w.heap.size, 1, none⟩ = some (.int .i64 x0) := (cc _ _ (by simp)).trans (by go_simp)); (have q2 : w1.cell? ⟨w.heap.size, 2, none⟩ = some (.int .i64 y0) := (cc _ _ (by simp)).trans (by go_simp)); (have q3 : w1.cell? ⟨w.heap.size, 3, none⟩ = some (.int .i64 x1) := (cc _ _ (by simp)).trans (by go_simp)); (have q4 : w1.cell? ⟨w.heap.size, 4, none⟩ = some (.int .i64 y1) := (cc _ _ (by simp)).trans (by go_simp)); (have q5 : w1.cell? ⟨w.heap.size, 5, none⟩ = some (.slice A n c) := (cc _ _ (by simp)).trans (by go_simp)); clear hg hd cc ff))
    go_ret
    exact ⟨false, rfl, fun h => Bool.noConfusion h, gb_alloc HG.out _⟩
end Go.Proofs.YtgjpohmjkhgpfaaGreat

namespace Go.Proofs.YtgjpohmjkhgpfaaGreat
open Go.RowKit

set_option maxRecDepth 100000 in
set_option maxHeartbeats 2000000 in
theorem size_c (k : Nat) (hk : k < 7) (w : World) : Calls Tryz.prog 27 #[.int .i64 k] w fun e w' => e = .returned (.int .i64 (sz k)) ∧ w = w' := by
  have hk' : k = 0 ∨ k = 1 ∨ k = 2 ∨ k = 3 ∨ k = 4 ∨ k = 5 ∨ k = 6 := by omega
  rcases hk' with rfl | rfl | rfl | rfl | rfl | rfl | rfl
  all_goals
    go_enter Tryz.func27, Tryz.ntmps27
    go_wp2
    go_ret
    exact ⟨rfl, rfl⟩
/-- what Valid says of an image's colors -/
def MulK (k : Nat) (n : Nat) (p : Nat → Int) : Prop := (k = 0 → Mul0 p (n / 4)) ∧ (k = 4 → Mul8 p (n / 8))
theorem multk_c {k : Nat} {x0 y0 x1 y1 : Int} {A : Option Addr} {n c : Nat} {p : Nat → Int} (w : World) (hk : k < 6) (h : Rd w A n p) (hp : By p) (hn : n ≤ 2147483647) (hc : n ≤ c) (hc2 : c ≤ 9223372036854775807) :
    Calls Tryz.prog 30 #[vI k x0 y0 x1 y1 A n c] w (BoolOut w (MulK k n p)) := by
  by_cases h0 : k = 0
  · subst h0
    refine (mult0_c w h hp hn hc hc2).mono ?_
    rintro e w' ⟨b, he, hb, hg⟩
    exact ⟨b, he, fun h => ⟨fun _ => hb h, fun e => absurd e (by decide)⟩, hg⟩
  by_cases h4 : k = 4
  · subst h4
    refine (mult8_c w (.inl rfl) h hp hn hc hc2).mono ?_
    rintro e w' ⟨b, he, hb, hg⟩
    exact ⟨b, he, fun h => ⟨fun e => absurd e (by decide), fun _ => hb h⟩, hg⟩
  refine (mult1_c w (by omega) (by omega) (by omega)).mono ?_
  rintro e w' ⟨b, he, hb, hg⟩
  exact ⟨b, he, fun h => ⟨fun e => absurd e h0, fun e => absurd e h4⟩, hg⟩
/-- what Valid says -/
def VK (k : Nat) (x0 y0 x1 y1 : Int) (n : Nat) (p : Nat → Int) : Prop :=
  (k < 6 ∧ VF (sz k) (MulK k n p) x0 y0 x1 y1 n) ∨ (k = 6 ∧ n = 8 ∧ Mul8 p 1)
theorem sz_le (k : Nat) : sz k ≤ 8 := by unfold sz; split <;> omega
set_option maxRecDepth 100000 in
set_option maxHeartbeats 4000000 in
theorem valid_c {k x0 y0 x1 y1 : Int} {A : Option Addr} {n c : Nat} {p : Nat → Int} (w : World) (h : Rd w A n p) (hp : By p) (hn : n ≤ 2147483647) (hc : n ≤ c) (hc2 : c ≤ 9223372036854775807) :
    Calls Tryz.prog 16 #[vI k x0 y0 x1 y1 A n c, .int .i64 64] w (BoolOut w (∃ kk : Nat, k = kk ∧ VK kk x0 y0 x1 y1 n p)) := by
  by_cases h0 : k < 0
  · go_enter Tryz.func16, Tryz.ntmps16
    go_wp2
    go_ret
    exact ⟨false, rfl, fun h => Bool.noConfusion h, gb_alloc (gb_refl _ _) _⟩
  by_cases h7 : 7 ≤ k
  · go_enter Tryz.func16, Tryz.ntmps16
    go_wp2
    go_ret
    exact ⟨false, rfl, fun h => Bool.noConfusion h, gb_alloc (gb_refl _ _) _⟩
  obtain ⟨kk, rfl⟩ := Int.eq_ofNat_of_zero_le (show 0 ≤ k by omega)
  by_cases h6 : kk < 6
  · refine (valid_of (P := MulK kk n p) (s := sz kk) w (by omega) (by omega) (sz_le kk) hn (size_c kk (by omega)) (fun w' hg => multk_c w' h6 (h.kept0 hg) hp hn hc hc2)).mono ?_
    rintro e w' ⟨b, he, hb, hg⟩
    exact ⟨b, he, fun h => ⟨kk, rfl, .inl ⟨h6, hb h⟩⟩, hg⟩
  · obtain rfl : kk = 6 := by omega
    clear h0 h7 h6
    have hs : ∀ w, Calls Tryz.prog 27 #[.int .i64 6] w fun e w' => e = .returned (.int .i64 8) ∧ w = w' := size_c 6 (by omega)
    have H := hid h
    clear h
    by_cases h8 : n = 8
    · subst h8
      go_enter Tryz.func16, Tryz.ntmps16
      go_wp2_with fail
      refine (hs _).mono ?_
      rintro e w1 ⟨rfl, rfl⟩
      go_wp2_with fail
      refine (mult8_c _ (.inr rfl) (H.out.kept0 (gb_alloc (gb_refl _ _) _)) hp hn hc hc2).mono ?_
      rintro e w1 ⟨b, rfl, hb, hg⟩
      have HB := hid hb
      have HG := hid (gb_trans (gb_alloc (gb_refl w none) _) hg)
      clear hb hg
      go_wp2
      go_ret
      exact ⟨b, rfl, fun h => ⟨6, rfl, .inr ⟨rfl, rfl, HB.out h⟩⟩, HG.out⟩
    · have hb : ((n : Int) == 8) = false := by rw [beq_eq_false_iff_ne]; omega
      go_enter Tryz.func16, Tryz.ntmps16
      go_wp2_with fail
      refine (hs _).mono ?_
      rintro e w1 ⟨rfl, rfl⟩
      go_wp2
      go_ret
      exact ⟨false, rfl, fun h => Bool.noConfusion h, gb_alloc (gb_refl _ _) _⟩
end Go.Proofs.YtgjpohmjkhgpfaaGreat

namespace Go.Proofs.YtgjpohmjkhgpfaaGreat

/-- composed exactly, times full squared -/
def cmp (op : Nat) (d s sa m : Int) : Int := if op = 0 then s * m * 65535 + d * (4294836225 - sa * m) else s * m * 65535
def fu (x : Int) : Prop := 0 ≤ x ∧ x ≤ 65535
theorem fu_mul {a b : Int} (ha : fu a) (hb : fu b) : 0 ≤ a * b ∧ a * b ≤ 4294836225 :=
  ⟨Int.mul_nonneg ha.1 hb.1, Int.mul_le_mul ha.2 hb.2 hb.1 (by decide)⟩
/-- what is allowed of a color of 16 bits that was computed: within one of the exact color -/
def Nr1 (v e : Int) : Prop := -4294836225 ≤ v * 4294836225 - e ∧ v * 4294836225 - e ≤ 4294836225
theorem mixM_near {op : Nat} {d s sa m : Int} (hd : fu d) (hs : fu s) (ha : fu sa) (hm : fu m) : Nr1 (mixM op d s sa m) (cmp op d s sa m) := by
  unfold mixM cmp
  by_cases h : op = 0
  · rw [if_pos h, if_pos h]
    obtain ⟨t, ht⟩ : ∃ t, sa * m / 65535 = t := ⟨_, rfl⟩
    obtain ⟨u, hu⟩ : ∃ u, sa * m % 65535 = u := ⟨_, rfl⟩
    have h1 : sa * m = 65535 * t + u := by rw [← ht, ← hu]; omega
    have h2 : 0 ≤ u ∧ u < 65535 := by rw [← hu]; omega
    obtain ⟨Z, hZ⟩ : ∃ Z, d * (65535 - t) + s * m = Z := ⟨_, rfl⟩
    have h3 : s * m * 65535 + d * (4294836225 - sa * m) = 65535 * Z - d * u := by
      rw [← hZ, h1, show (4294836225 : Int) - (65535 * t + u) = 65535 * (65535 - t) - u by omega, Int.mul_sub, Int.mul_add,
        ← Int.mul_assoc d 65535, Int.mul_comm d 65535, Int.mul_assoc 65535 d, Int.mul_comm 65535 (s * m)]
      omega
    have h4 : 0 ≤ d * u ∧ d * u ≤ 65535 * 65535 := ⟨Int.mul_nonneg hd.1 h2.1, Int.mul_le_mul hd.2 (by omega) h2.1 (by decide)⟩
    rw [ht, hZ, h3]
    unfold Nr1
    omega
  · rw [if_neg h, if_neg h]
    obtain ⟨Z, hZ⟩ : ∃ Z, s * m = Z := ⟨_, rfl⟩
    rw [hZ]
    unfold Nr1
    omega
theorem mix0_near {op : Nat} {d s sa : Int} (hd : fu d) (hs : fu s) (ha : fu sa) : Nr1 (mix0 op d s sa) (cmp op d s sa 65535) := by
  unfold mix0 cmp
  by_cases h : op = 0
  · rw [if_pos h, if_pos h]
    obtain ⟨Z, hZ⟩ : ∃ Z, d * (65535 - sa) = Z := ⟨_, rfl⟩
    have h3 : d * (4294836225 - sa * 65535) = 65535 * Z := by
      rw [← hZ, show (4294836225 : Int) - sa * 65535 = 65535 * (65535 - sa) by omega, ← Int.mul_assoc d 65535, Int.mul_comm d 65535, Int.mul_assoc 65535 d]
    rw [h3, hZ]
    unfold Nr1
    omega
  · rw [if_neg h, if_neg h]
    unfold Nr1
    omega
/-- no composed color is above 65535 -/
theorem mixM_le {op : Nat} {d s sa m : Int} (hd : fu d) (hs : fu s) (ha : fu sa) (hm : fu m) (hsa : s ≤ sa) : fu (mixM op d s sa m) := by
  unfold mixM fu
  have h5 := fu_mul hs hm
  have h6 := fu_mul ha hm
  by_cases h : op = 0
  · rw [if_pos h]
    obtain ⟨t, ht⟩ : ∃ t, sa * m / 65535 = t := ⟨_, rfl⟩
    have h1 : s * m ≤ sa * m := prod_le hm.1 hsa
    have h2 : 0 ≤ t ∧ t ≤ 65535 := by omega
    have h3 := rest_le (d := d) (x := 65535 - t) hd.1 hd.2 (by omega)
    rw [ht]
    omega
  · rw [if_neg h]
    omega
theorem mix0_le {op : Nat} {d s sa : Int} (hd : fu d) (hs : fu s) (ha : fu sa) (hsa : s ≤ sa) : fu (mix0 op d s sa) := by
  unfold mix0 fu
  unfold fu at hd hs ha
  by_cases h : op = 0
  · rw [if_pos h]
    have h3 := rest_le (d := d) (x := 65535 - sa) hd.1 hd.2 (by omega)
    omega
  · rw [if_neg h]
    omega
/-- the bytes of a pixel are near a color (times full squared), as the reference's Near says it -/
def NearV (k : Nat) (p : Nat → Int) (E : Nat → Int) : Prop := match k with
  | 0 => ∀ i, i < 4 → -1655659364700 ≤ p i * 257 * 4294836225 - E i ∧ p i * 257 * 4294836225 - E i ≤ 1655659364700
  | 2 => -1655659364700 ≤ p 0 * 257 * 4294836225 - E 3 ∧ p 0 * 257 * 4294836225 - E 3 ≤ 1655659364700
  | _ => ∀ i, i < 4 → -8589672400 ≤ (p (2 * i) * 256 + p (2 * i + 1)) * 4294836225 - E i ∧ (p (2 * i) * 256 + p (2 * i + 1)) * 4294836225 - E i ≤ 8589672400
theorem en_near {k : Nat} (hk : k = 0 ∨ k = 2 ∨ k = 4) {v E : Nat → Int} (hv : ∀ i, i < 4 → fu (v i)) (hn : ∀ i, i < 4 → Nr1 (v i) (E i)) : NearV k (en k v) E := by
  rcases hk with rfl | rfl | rfl
  · show ∀ i, i < 4 → _
    intro i hi
    have h1 := hv i hi; have h2 := hn i hi
    unfold fu at h1; unfold Nr1 at h2
    rw [en0]
    omega
  · have h1 := hv 3 (by omega); have h2 := hn 3 (by omega)
    unfold fu at h1; unfold Nr1 at h2
    show _ ∧ _
    rw [en2]
    omega
  · show ∀ i, i < 4 → _
    intro i hi
    have h1 := hv i hi; have h2 := hn i hi
    unfold fu at h1; unfold Nr1 at h2
    rw [en4, en4, if_pos (by omega), if_neg (by omega), show 2 * i / 2 = i by omega, show (2 * i + 1) / 2 = i by omega]
    have e : v i / 256 * 256 + v i % 256 = v i := by omega
    rw [e]
    omega
theorem fu_cl {k : Nat} {p : Nat → Int} (h : By p) (i : Nat) : fu (cl k p i) := cl_range h i
theorem pm_le {k : Nat} {p : Nat → Int} (h : Pm k p) {i : Nat} (hi : i < 4) : cl k p i ≤ cl k p 3 := by
  by_cases e : i = 3
  · rw [e]; exact Int.le_refl _
  · exact h i (by omega)
theorem px0_near {kd ks op : Nat} (hk : kd = 0 ∨ kd = 2 ∨ kd = 4) {d s : Nat → Int} (hd : By d) (hs : By s) (hp : Pm ks s) : NearV kd (px0 kd ks op d s) (fun i => cmp op (cl kd d i) (cl ks s i) (cl ks s 3) 65535) :=
  en_near hk (fun i hi => mix0_le (fu_cl hd i) (fu_cl hs i) (fu_cl hs 3) (pm_le hp hi)) (fun i _ => mix0_near (fu_cl hd i) (fu_cl hs i) (fu_cl hs 3))
theorem pxM_near {kd ks mk op : Nat} (hk : kd = 0 ∨ kd = 2 ∨ kd = 4) {d s m : Nat → Int} (hd : By d) (hs : By s) (hm : By m) (hp : Pm ks s) : NearV kd (pxM kd ks mk op d s m) (fun i => cmp op (cl kd d i) (cl ks s i) (cl ks s 3) (cl mk m 3)) :=
  en_near hk (fun i hi => mixM_le (fu_cl hd i) (fu_cl hs i) (fu_cl hs 3) (fu_cl hm 3) (pm_le hp hi)) (fun i _ => mixM_near (fu_cl hd i) (fu_cl hs i) (fu_cl hs 3) (fu_cl hm 3))
/-- an opaque mask is as none -/
theorem mixM_full (op : Nat) {d s sa : Int} : mixM op d s sa 65535 = mix0 op d s sa := by
  unfold mixM mix0
  have e1 : sa * 65535 / 65535 = sa := by omega
  have e2 : s * 65535 / 65535 = s := by omega
  rw [e1, e2]
  by_cases h : op = 0
  · rw [if_pos h, if_pos h]; omega
  · rw [if_neg h, if_neg h]
theorem pxM_full {kd ks mk op : Nat} {d s m : Nat → Int} (h : cl mk m 3 = 65535) : pxM kd ks mk op d s m = px0 kd ks op d s := by
  unfold pxM px0
  rw [h]
  congr 1
  funext i
  exact mixM_full op
/-- nothing comes through a mask of alpha 0: by Over all stays, by Src nothing is left -/
theorem mixM_zero (op : Nat) {d s sa : Int} : mixM op d s sa 0 = if op = 0 then d else 0 := by
  unfold mixM
  by_cases h : op = 0
  · rw [if_pos h, if_pos h, Int.mul_zero, Int.mul_zero]; omega
  · rw [if_neg h, if_neg h, Int.mul_zero]; rfl
theorem mix0_zero (op : Nat) {d : Int} : mix0 op d 0 0 = if op = 0 then d else 0 := by
  unfold mix0
  by_cases h : op = 0
  · rw [if_pos h, if_pos h]; omega
  · rw [if_neg h, if_neg h]
theorem en_cl {k : Nat} (hk : k = 0 ∨ k = 2 ∨ k = 4) {d : Nat → Int} (hd : By d) {ch : Nat} (hc : ch < sz k) : en k (cl k d) ch = d ch := by
  rcases hk with rfl | rfl | rfl
  · rw [en0, cl0]; have := hd ch; omega
  · have hc' : ch < 1 := hc
    obtain rfl : ch = 0 := by omega
    rw [en2, cl2]; have := hd 0; omega
  · rw [en4, cl4]
    have h1 := hd (2 * (ch / 2)); have h2 := hd (2 * (ch / 2) + 1)
    split
    · have e : 2 * (ch / 2) = ch := by omega
      rw [e] at h1 h2 ⊢; omega
    · have e : 2 * (ch / 2) + 1 = ch := by omega
      rw [e] at h2 ⊢; omega
theorem en_nil {k : Nat} (hk : k = 0 ∨ k = 2 ∨ k = 4) (ch : Nat) : en k (fun _ => 0) ch = 0 := by
  rcases hk with rfl | rfl | rfl
  · rw [en0]; rfl
  · rw [en2]; rfl
  · rw [en4]; split <;> rfl
theorem pxM_zero {kd ks mk op : Nat} (hk : kd = 0 ∨ kd = 2 ∨ kd = 4) {d s m : Nat → Int} (hd : By d) (h : cl mk m 3 = 0) {ch : Nat} (hc : ch < sz kd) : pxM kd ks mk op d s m ch = if op = 0 then d ch else 0 := by
  unfold pxM
  rw [h]
  simp only [mixM_zero]
  by_cases e : op = 0
  · simp only [if_pos e]; exact en_cl hk hd hc
  · simp only [if_neg e]; exact en_nil hk ch
theorem px0_zero {kd ks op : Nat} (hk : kd = 0 ∨ kd = 2 ∨ kd = 4) {d s : Nat → Int} (hd : By d) (h : ∀ i, cl ks s i = 0) {ch : Nat} (hc : ch < sz kd) : px0 kd ks op d s ch = if op = 0 then d ch else 0 := by
  unfold px0
  simp only [h, mix0_zero]
  by_cases e : op = 0
  · simp only [if_pos e]; exact en_cl hk hd hc
  · simp only [if_neg e]; exact en_nil hk ch
theorem cl_zero {k : Nat} (hk : k ≠ 3 ∧ k ≠ 5) {p : Nat → Int} (h : ∀ i, p i = 0) (i : Nat) : cl k p i = 0 := by
  unfold cl
  split
  · rw [h]; rfl
  · simp [h]
  · rw [h]; rfl
  · exact absurd rfl hk.1
  · exact absurd rfl hk.2
  · rw [h, h]; rfl
end Go.Proofs.YtgjpohmjkhgpfaaGreat
