/- Parts of the proof: what the functions of the package and of the reference do (LG, LH, LV). No condition but those that each theorem names. -/
import Derived.Test.YtgjpohmjkhgpfaaGreatD01
import Derived.Test.YtgjpohmjkhgpfaaGreatD04
import Derived.Deep.RegionWith
set_option linter.unusedSimpArgs false
set_option linter.unusedVariables false
namespace Go.Proofs.YtgjpohmjkhgpfaaGreat
open Go.RowKit

/-- a number of two bytes -/
def wd (p : Nat → Int) (i : Nat) : Int := p (2 * i) * 256 + p (2 * i + 1)
/-- four cells of one's own -/
def Cells4 (w : World) (b : Nat) (v0 v1 v2 v3 : Int) : Prop := w.cell? ⟨b, 0, none⟩ = some (.int .i64 v0) ∧ w.cell? ⟨b, 1, none⟩ = some (.int .i64 v1) ∧ w.cell? ⟨b, 2, none⟩ = some (.int .i64 v2) ∧ w.cell? ⟨b, 3, none⟩ = some (.int .i64 v3) ∧
  w.frozen? ⟨b, 0, none⟩ = false ∧ w.frozen? ⟨b, 1, none⟩ = false ∧ w.frozen? ⟨b, 2, none⟩ = false ∧ w.frozen? ⟨b, 3, none⟩ = false

set_option maxRecDepth 100000 in
set_option maxHeartbeats 4000000 in
theorem wide_c {A : Addr} {c : Nat} {p : Nat → Int} (w : World) (hp : By p) (h : ∀ i, i < 8 → w.cell? (A.add i) = some (.int .u8 (p i))) :
    Calls Tryz.prog 40 #[.slice (some A) 8 c] w fun e w' => e = .returned (.agg #[.int .i64 (wd p 0), .int .i64 (wd p 1), .int .i64 (wd p 2), .int .i64 (wd p 3)]) ∧ w.grownBy w' none := by
  have hb : A.block < w.heap.size := World.block_lt_of_cell? w _ (h 0 (by omega))
  obtain ⟨ab, ao, ap⟩ := A
  have H := hid h
  clear h
  have o0 := or64 (hp 0) (hp 1)
  have o1 := or64 (hp 2) (hp 3)
  have o2 := or64 (hp 4) (hp 5)
  have o3 := or64 (hp 6) (hp 7)
  have r0 := hp 0
  have r1 := hp 2
  have r2 := hp 4
  have r3 := hp 6
  have r4 := hp 1
  have r5 := hp 3
  have r6 := hp 5
  have r7 := hp 7
  go_enter Tryz.func40, Tryz.ntmps40
  go_wp2
  go_loopw [5] (fun u wr => w.grownBy wr none ∧ w.heap.size + 1 < wr.heap.size ∧ Cells4 wr w.heap.size 0 0 0 0 ∧
    ((u = .int .i64 0 ∧ Cells4 wr (w.heap.size + 1) 0 0 0 0) ∨ (u = .int .i64 1 ∧ Cells4 wr (w.heap.size + 1) (wd p 0) 0 0 0) ∨ (u = .int .i64 2 ∧ Cells4 wr (w.heap.size + 1) (wd p 0) (wd p 1) 0 0) ∨ (u = .int .i64 3 ∧ Cells4 wr (w.heap.size + 1) (wd p 0) (wd p 1) (wd p 2) 0) ∨ (u = .int .i64 4 ∧ Cells4 wr (w.heap.size + 1) (wd p 0) (wd p 1) (wd p 2) (wd p 3)))) (fun u _ => (4 - intOf u).toNat)
  case atStart => exact ⟨gb_alloc (gb_alloc (gb_refl _ _) _) _, by simp, ⟨by go_simp, by go_simp, by go_simp, by go_simp, by go_simp, by go_simp, by go_simp, by go_simp⟩, .inl ⟨rfl, by go_simp, by go_simp, by go_simp, by go_simp, by go_simp, by go_simp, by go_simp, by go_simp⟩⟩
  case round =>
    obtain ⟨hg, hz, hc2, hrel⟩ := hrel
    have HG := hid hg
    clear hg
    have hbr := Nat.lt_of_lt_of_le hb HG.out.size
    have k0 : wr.cell? ⟨ab, ao, ap⟩ = some (.int .u8 (p 0)) := (gb_cell0 HG.out hb).trans (H.out 0 (by omega))
    have kk : ∀ i, 0 < i → i < 8 → wr.cell? ⟨ab, ao + i, none⟩ = some (.int .u8 (p i)) := fun i h0 hi => by
      have e : (⟨ab, ao, ap⟩ : Addr).add i = ⟨ab, ao + i, none⟩ := by unfold Addr.add; rw [if_neg (by omega)]
      rw [← e]; exact (gb_cell0 HG.out (by rw [e]; exact hb)).trans (H.out i hi)
    have k1 := kk 1 (by omega) (by omega)
    have k2 := kk 2 (by omega) (by omega)
    have k3 := kk 3 (by omega) (by omega)
    have k4 := kk 4 (by omega) (by omega)
    have k5 := kk 5 (by omega) (by omega)
    have k6 := kk 6 (by omega) (by omega)
    have k7 := kk 7 (by omega) (by omega)
    clear kk
    obtain ⟨z0, z1, z2, z3, y0, y1, y2, y3⟩ := hc2
    rcases hrel with ⟨rfl, c0, c1, c2, c3, d0, d1, d2, d3⟩ | ⟨rfl, c0, c1, c2, c3, d0, d1, d2, d3⟩ | ⟨rfl, c0, c1, c2, c3, d0, d1, d2, d3⟩ | ⟨rfl, c0, c1, c2, c3, d0, d1, d2, d3⟩ | ⟨rfl, c0, c1, c2, c3, d0, d1, d2, d3⟩
    · have ev : wd p 0 = p 0 * 256 + p 1 := rfl
      go_wp2
      go_region_with (fail)
      all_goals (go_wp2; refine ⟨⟨gb_drew (gb_setCell HG.out (.inr (by simp)) _), by go_simp, ⟨by go_simp, by go_simp, by go_simp, by go_simp, by go_simp, by go_simp, by go_simp, by go_simp⟩, .inr (.inl ⟨rfl, by go_simp, by go_simp, by go_simp, by go_simp, by go_simp, by go_simp, by go_simp, by go_simp⟩)⟩, by simp [intOf]⟩)
    · have ev : wd p 1 = p 2 * 256 + p 3 := rfl
      go_wp2
      go_region_with (fail)
      all_goals (go_wp2; refine ⟨⟨gb_drew (gb_setCell HG.out (.inr (by simp)) _), by go_simp, ⟨by go_simp, by go_simp, by go_simp, by go_simp, by go_simp, by go_simp, by go_simp, by go_simp⟩, .inr (.inr (.inl ⟨rfl, by go_simp, by go_simp, by go_simp, by go_simp, by go_simp, by go_simp, by go_simp, by go_simp⟩))⟩, by simp [intOf]⟩)
    · have ev : wd p 2 = p 4 * 256 + p 5 := rfl
      go_wp2
      go_region_with (fail)
      all_goals (go_wp2; refine ⟨⟨gb_drew (gb_setCell HG.out (.inr (by simp)) _), by go_simp, ⟨by go_simp, by go_simp, by go_simp, by go_simp, by go_simp, by go_simp, by go_simp, by go_simp⟩, .inr (.inr (.inr (.inl ⟨rfl, by go_simp, by go_simp, by go_simp, by go_simp, by go_simp, by go_simp, by go_simp, by go_simp⟩)))⟩, by simp [intOf]⟩)
    · have ev : wd p 3 = p 6 * 256 + p 7 := rfl
      go_wp2
      go_region_with (fail)
      all_goals (go_wp2; refine ⟨⟨gb_drew (gb_setCell HG.out (.inr (by simp)) _), by go_simp, ⟨by go_simp, by go_simp, by go_simp, by go_simp, by go_simp, by go_simp, by go_simp, by go_simp⟩, .inr (.inr (.inr (.inr ⟨rfl, by go_simp, by go_simp, by go_simp, by go_simp, by go_simp, by go_simp, by go_simp, by go_simp⟩)))⟩, by simp [intOf]⟩)
    · go_wp2
      exact bodyPost_ret (v := .agg #[.int .i64 (wd p 0), .int .i64 (wd p 1), .int .i64 (wd p 2), .int .i64 (wd p 3)]) (by simp [results, Tryz.results40, go_sem, z0, z1, z2, z3]) rfl ⟨rfl, by (repeat (first | exact HG.out | refine gb_setCell ?_ (.inr (by simp)) _))⟩
end Go.Proofs.YtgjpohmjkhgpfaaGreat

namespace Go.Proofs.YtgjpohmjkhgpfaaGreat
open Go.RowKit

theorem run_max3i (a b c : Int) (ts : Array TypeId) (t : TypeId) (w : World) : (Builtin.max_ ts t #[.int .i64 a, .int .i64 b, .int .i64 c]).run Tryz.prog w = .ok (.int .i64 (hi2 (hi2 a b) c)) w := by
  unfold hi2
  by_cases h : a < b
  · by_cases h' : b < c <;> simp [Builtin.max_, Builtin.max2, h, h']
  · by_cases h' : a < c <;> simp [Builtin.max_, Builtin.max2, h, h']
/-- no color of the first m pixels of eight bytes is above alpha -/
def Mul8 (p : Nat → Int) (m : Nat) : Prop := ∀ j, j < m → wd (fun i => p (8 * j + i)) 0 ≤ wd (fun i => p (8 * j + i)) 3 ∧ wd (fun i => p (8 * j + i)) 1 ≤ wd (fun i => p (8 * j + i)) 3 ∧ wd (fun i => p (8 * j + i)) 2 ≤ wd (fun i => p (8 * j + i)) 3
set_option maxRecDepth 100000 in
set_option maxHeartbeats 8000000 in
theorem mult8_c {k x0 y0 x1 y1 : Int} {A : Option Addr} {n c : Nat} {p : Nat → Int} (w : World) (hk : k = 4 ∨ k = 6) (h : Rd w A n p) (hp : By p) (hn : n ≤ 2147483647) (hc : n ≤ c) (hc2 : c ≤ 9223372036854775807) :
    Calls Tryz.prog 30 #[vI k x0 y0 x1 y1 A n c] w (BoolOut w (Mul8 p (n / 8))) := by
  have H := hid h
  have HP := hid hp
  clear h hp
  have hmx := fun a b d ts t w => run_max3i a b d ts t w
  rcases hk with rfl | rfl
  all_goals
    go_enter Tryz.func30, Tryz.ntmps30
    go_wp2
    go_loopw [5] (fun u wr => ∃ j : Nat, 8 * j ≤ n ∧ u = .int .i64 ((8 * j : Nat) : Int) ∧ Mul8 p j ∧ w.grownBy wr none ∧ wr.cell? ⟨w.heap.size, 5, none⟩ = some (.slice A n c)) (fun u _ => n - (intOf u).toNat)
    case atStart => exact ⟨0, by omega, rfl, fun j hj => absurd hj (by omega), gb_alloc (gb_refl _ _) _, by go_simp⟩
    case round =>
      obtain ⟨j, hj, rfl, hm, hg, h5⟩ := hrel
      have HM := hid hm
      have HG := hid hg
      clear hm hg
      by_cases hlt : 8 * j + 7 < n
      · obtain ⟨a, hA, hb, hca⟩ := H.out (by omega)
        subst hA
        have HC := hid (And.intro hb hca)
        clear hca hb
        have q8 : 8 * j + 8 - 8 * j = 8 := by omega
        go_wp2_with fail
        refine (wide_c (p := fun i => p (8 * j + i)) _ (fun i => HP.out _) (fun i hi => by rw [add_add]; exact (gb_cell0 HG.out (by rw [add_block]; exact HC.out.1)).trans (HC.out.2 _ (by omega)))).mono ?_
        rintro e w1 ⟨rfl, hg⟩
        have h6 : w1.cell? ⟨w.heap.size, 5, none⟩ = some (.slice (some a) n c) := (gb_cell0 hg (p := ⟨w.heap.size, 5, none⟩) (World.block_lt_of_cell? _ _ h5)).trans h5
        have zz := World.block_lt_of_cell? _ _ h6
        have HG1 := hid (gb_trans HG.out hg)
        clear hg h5
        obtain ⟨v0, hv0⟩ : ∃ v, wd (fun i => p (8 * j + i)) 0 = v := ⟨_, rfl⟩
        obtain ⟨v1, hv1⟩ : ∃ v, wd (fun i => p (8 * j + i)) 1 = v := ⟨_, rfl⟩
        obtain ⟨v2, hv2⟩ : ∃ v, wd (fun i => p (8 * j + i)) 2 = v := ⟨_, rfl⟩
        obtain ⟨v3, hv3⟩ : ∃ v, wd (fun i => p (8 * j + i)) 3 = v := ⟨_, rfl⟩
        rw [hv0, hv1, hv2, hv3]
        have HV := hid (And.intro hv0 (And.intro hv1 (And.intro hv2 hv3)))
        clear hv0 hv1 hv2 hv3
        by_cases hv : v3 < hi2 (hi2 v0 v1) v2
        · go_wp2
          go_ret
          exact ⟨false, rfl, fun h => Bool.noConfusion h, by (repeat (first | exact HG1.out | refine gb_drew ?_ | refine gb_alloc ?_ _ | refine gb_setCell ?_ (.inr (by simp <;> omega)) _))⟩
        · go_wp2
          refine ⟨⟨j + 1, by omega, by go_num, ?_, by (repeat (first | exact HG1.out | refine gb_drew ?_ | refine gb_alloc ?_ _ | refine gb_setCell ?_ (.inr (by simp <;> omega)) _)), by go_simp⟩, by simp [intOf]; omega⟩
          intro i hi
          by_cases hij : i < j
          · exact HM.out i hij
          · obtain rfl : i = j := by omega
            obtain ⟨e0, e1, e2, e3⟩ := HV.out
            rw [hi2_eq, hi2_eq] at hv
            rw [e0, e1, e2, e3]
            omega
      · go_wp2
        go_ret
        refine ⟨true, rfl, fun _ i hi => HM.out i (by omega), HG.out⟩
set_option maxRecDepth 100000 in
set_option maxHeartbeats 2000000 in
theorem mult1_c {k x0 y0 x1 y1 : Int} {A : Option Addr} {n c : Nat} (w : World) (h0 : k ≠ 0) (h4 : k ≠ 4) (h6 : k ≠ 6) :
    Calls Tryz.prog 30 #[vI k x0 y0 x1 y1 A n c] w (BoolOut w True) := by
  have b0 : (k == 0) = false := beq_eq_false_iff_ne.2 h0
  have b4 : (k == 4) = false := beq_eq_false_iff_ne.2 h4
  have b6 : (k == 6) = false := beq_eq_false_iff_ne.2 h6
  clear h0 h4 h6
  go_enter Tryz.func30, Tryz.ntmps30
  go_wp2
  go_ret
  exact ⟨true, rfl, fun _ => trivial, gb_alloc (gb_refl _ _) _⟩
end Go.Proofs.YtgjpohmjkhgpfaaGreat

namespace Go.Proofs.YtgjpohmjkhgpfaaGreat
open Go.RowKit

/-- what Valid says of an image whose pixels are of s bytes -/
def VF (s : Nat) (P : Prop) (x0 y0 x1 y1 : Int) (n : Nat) : Prop :=
  (x0 ≤ x1 ∧ y0 ≤ y1 ∧ -64 ≤ x0 ∧ -64 ≤ y0 ∧ x1 ≤ 64 ∧ y1 ≤ 64) ∧ (n : Int) = (x1 - x0) * (y1 - y0) * s ∧ P
set_option maxRecDepth 100000 in
set_option maxHeartbeats 8000000 in
theorem valid_of {k x0 y0 x1 y1 : Int} {A : Option Addr} {n c s : Nat} {P : Prop} (w : World) (hk0 : 0 ≤ k) (hk : k < 6) (hs : s ≤ 8) (hn : n ≤ 2147483647)
    (hsize : ∀ w, Calls Tryz.prog 27 #[.int .i64 k] w fun e w' => e = .returned (.int .i64 s) ∧ w = w')
    (hmul : ∀ w', w.grownBy w' none → Calls Tryz.prog 30 #[vI k x0 y0 x1 y1 A n c] w' (BoolOut w' P)) :
    Calls Tryz.prog 16 #[vI k x0 y0 x1 y1 A n c, .int .i64 64] w (BoolOut w (VF s P x0 y0 x1 y1 n)) := by
  have hk6 : k ≠ 6 := by omega
  have k0 : ¬ (k < 0) := by omega
  have k7 : ¬ (7 ≤ k) := by omega
  have kb : (k == 6) = false := beq_eq_false_iff_ne.2 hk6
  have HMU := hid hmul
  have HSI := hid hsize
  clear hmul hk hk0
  by_cases h0 : x1 < x0
  · go_enter Tryz.func16, Tryz.ntmps16
    go_wp2_with (first | (go_at_call 27; refine (hsize _).mono ?_; rintro e w1 ⟨rfl, rfl⟩) | (go_at_call 19; refine (sbounds_c k x0 y0 x1 y1 A n c _).mono ?_; rintro e w1 ⟨rfl, hg⟩; (have hd : decide (k = 6) = false := by simpa using hk6); rw [hd]; (have HG := hid (gb_trans (gb_alloc (gb_refl w none) _) hg)); (have z1 := hg.size); (simp at z1); (have z2 : w.heap.size < w1.heap.size := by omega); (obtain ⟨cc, ff⟩ := gb_rules hg); clear hg hd))
    go_ret
    exact ⟨false, rfl, fun h => Bool.noConfusion h, gb_alloc HG.out _⟩
  by_cases h1 : y1 < y0
  · go_enter Tryz.func16, Tryz.ntmps16
    go_wp2_with (first | (go_at_call 27; refine (hsize _).mono ?_; rintro e w1 ⟨rfl, rfl⟩) | (go_at_call 19; refine (sbounds_c k x0 y0 x1 y1 A n c _).mono ?_; rintro e w1 ⟨rfl, hg⟩; (have hd : decide (k = 6) = false := by simpa using hk6); rw [hd]; (have HG := hid (gb_trans (gb_alloc (gb_refl w none) _) hg)); (have z1 := hg.size); (simp at z1); (have z2 : w.heap.size < w1.heap.size := by omega); (obtain ⟨cc, ff⟩ := gb_rules hg); clear hg hd))
    go_ret
    exact ⟨false, rfl, fun h => Bool.noConfusion h, gb_alloc HG.out _⟩
  by_cases h2 : x0 < -64
  · go_enter Tryz.func16, Tryz.ntmps16
    go_wp2_with (first | (go_at_call 27; refine (hsize _).mono ?_; rintro e w1 ⟨rfl, rfl⟩) | (go_at_call 19; refine (sbounds_c k x0 y0 x1 y1 A n c _).mono ?_; rintro e w1 ⟨rfl, hg⟩; (have hd : decide (k = 6) = false := by simpa using hk6); rw [hd]; (have HG := hid (gb_trans (gb_alloc (gb_refl w none) _) hg)); (have z1 := hg.size); (simp at z1); (have z2 : w.heap.size < w1.heap.size := by omega); (obtain ⟨cc, ff⟩ := gb_rules hg); clear hg hd))
    go_ret
    exact ⟨false, rfl, fun h => Bool.noConfusion h, gb_alloc HG.out _⟩
  by_cases h3 : y0 < -64
  · go_enter Tryz.func16, Tryz.ntmps16
    go_wp2_with (first | (go_at_call 27; refine (hsize _).mono ?_; rintro e w1 ⟨rfl, rfl⟩) | (go_at_call 19; refine (sbounds_c k x0 y0 x1 y1 A n c _).mono ?_; rintro e w1 ⟨rfl, hg⟩; (have hd : decide (k = 6) = false := by simpa using hk6); rw [hd]; (have HG := hid (gb_trans (gb_alloc (gb_refl w none) _) hg)); (have z1 := hg.size); (simp at z1); (have z2 : w.heap.size < w1.heap.size := by omega); (obtain ⟨cc, ff⟩ := gb_rules hg); clear hg hd))
    go_ret
    exact ⟨false, rfl, fun h => Bool.noConfusion h, gb_alloc HG.out _⟩
  by_cases h4 : 64 < x1
  · go_enter Tryz.func16, Tryz.ntmps16
    go_wp2_with (first | (go_at_call 27; refine (hsize _).mono ?_; rintro e w1 ⟨rfl, rfl⟩) | (go_at_call 19; refine (sbounds_c k x0 y0 x1 y1 A n c _).mono ?_; rintro e w1 ⟨rfl, hg⟩; (have hd : decide (k = 6) = false := by simpa using hk6); rw [hd]; (have HG := hid (gb_trans (gb_alloc (gb_refl w none) _) hg)); (have z1 := hg.size); (simp at z1); (have z2 : w.heap.size < w1.heap.size := by omega); (obtain ⟨cc, ff⟩ := gb_rules hg); clear hg hd))
    go_ret
    exact ⟨false, rfl, fun h => Bool.noConfusion h, gb_alloc HG.out _⟩
  by_cases h5 : 64 < y1
  · go_enter Tryz.func16, Tryz.ntmps16
    go_wp2_with (first | (go_at_call 27; refine (hsize _).mono ?_; rintro e w1 ⟨rfl, rfl⟩) | (go_at_call 19; refine (sbounds_c k x0 y0 x1 y1 A n c _).mono ?_; rintro e w1 ⟨rfl, hg⟩; (have hd : decide (k = 6) = false := by simpa using hk6); rw [hd]; (have HG := hid (gb_trans (gb_alloc (gb_refl w none) _) hg)); (have z1 := hg.size); (simp at z1); (have z2 : w.heap.size < w1.heap.size := by omega); (obtain ⟨cc, ff⟩ := gb_rules hg); clear hg hd))
    go_ret
    exact ⟨false, rfl, fun h => Bool.noConfusion h, gb_alloc HG.out _⟩
  obtain ⟨u, hu⟩ := Int.eq_ofNat_of_zero_le (show 0 ≤ x1 - x0 by omega)
  obtain ⟨v, hv⟩ := Int.eq_ofNat_of_zero_le (show 0 ≤ y1 - y0 by omega)
  obtain ⟨m, hm⟩ : ∃ m : Nat, u * v = m := ⟨_, rfl⟩
  have f1 : (u : Int) * v = m := by rw [← hm]; push_cast; rfl
  have hm2 : m ≤ 16384 := by rw [← hm]; exact Nat.mul_le_mul (show u ≤ 128 by omega) (show v ≤ 128 by omega)
  obtain ⟨t, ht⟩ : ∃ t : Nat, m * s = t := ⟨_, rfl⟩
  have f2 : (m : Int) * s = t := by rw [← ht]; push_cast; rfl
  have ht2 : t ≤ 131072 := by rw [← ht]; exact Nat.mul_le_mul hm2 hs
  have HU := hid hu
  have HV := hid hv
  have HM := hid (And.intro h0 (And.intro h1 (And.intro h2 (And.intro h3 (And.intro h4 h5)))))
  have Hf := hid f1
  have Hf2 := hid f2
  clear hm ht
  by_cases h6 : n = t
  · subst h6
    go_enter Tryz.func16, Tryz.ntmps16
    go_wp2_with (first | (go_at_call 27; refine (hsize _).mono ?_; rintro e w1 ⟨rfl, rfl⟩) | (go_at_call 19; refine (sbounds_c k x0 y0 x1 y1 A n c _).mono ?_; rintro e w1 ⟨rfl, hg⟩; (have hd : decide (k = 6) = false := by simpa using hk6); rw [hd]; (have HG := hid (gb_trans (gb_alloc (gb_refl w none) _) hg)); (have z1 := hg.size); (simp at z1); (have z2 : w.heap.size < w1.heap.size := by omega); (obtain ⟨cc, ff⟩ := gb_rules hg); (have q0 : w1.cell? ⟨w.heap.size, 0, none⟩ = some (.int .i64 k) := (cc _ _ (by simp)).trans (by go_simp)); (have q1 : w1.cell? ⟨w.heap.size, 1, none⟩ = some (.int .i64 x0) := (cc _ _ (by simp)).trans (by go_simp)); (have q2 : w1.cell? ⟨w.heap.size, 2, none⟩ = some (.int .i64 y0) := (cc _ _ (by simp)).trans (by go_simp)); (have q3 : w1.cell? ⟨w.heap.size, 3, none⟩ = some (.int .i64 x1) := (cc _ _ (by simp)).trans (by go_simp)); (have q4 : w1.cell? ⟨w.heap.size, 4, none⟩ = some (.int .i64 y1) := (cc _ _ (by simp)).trans (by go_simp)); (have q5 : w1.cell? ⟨w.heap.size, 5, none⟩ = some (.slice A n c) := (cc _ _ (by simp)).trans (by go_simp)); clear hg hd cc ff) | (go_at_call 30; refine (HMU.out _ (gb_alloc HG.out _)).mono ?_; rintro e w2 ⟨bb, rfl, hbb, hg2⟩; (have HG2 := hid (gb_trans (gb_alloc HG.out _) hg2)); (have HB2 := hid hbb); clear hg2 hbb))
    go_ret
    exact ⟨_, rfl, fun h => ⟨HM.out, by rw [HU.out, HV.out, Hf.out, Hf2.out], HB2.out h⟩, HG2.out⟩
  · have hb : ((n : Int) == (t : Int)) = false := by rw [beq_eq_false_iff_ne]; omega
    go_enter Tryz.func16, Tryz.ntmps16
    go_wp2_with (first | (go_at_call 27; refine (hsize _).mono ?_; rintro e w1 ⟨rfl, rfl⟩) | (go_at_call 19; refine (sbounds_c k x0 y0 x1 y1 A n c _).mono ?_; rintro e w1 ⟨rfl, hg⟩; (have hd : decide (k = 6) = false := by simpa using hk6); rw [hd]; (have HG := hid (gb_trans (gb_alloc (gb_refl w none) _) hg)); (have z1 := hg.size); (simp at z1); (have z2 : w.heap.size < w1.heap.size := by omega); (obtain ⟨cc, ff⟩ := gb_rules hg); (have q0 : w1.cell? ⟨w.heap.size, 0, none⟩ = some (.int .i64 k) := (cc _ _ (by simp)).trans (by go_simp)); (have q1 : w1.cell? ⟨w.heap.size, 1, none⟩ = some (.int .i64 x0) := (cc _ _ (by simp)).trans (by go_simp)); (have q2 : w1.cell? ⟨w.heap.size, 2, none⟩ = some (.int .i64 y0) := (cc _ _ (by simp)).trans (by go_simp)); (have q3 : w1.cell? ⟨w.heap.size, 3, none⟩ = some (.int .i64 x1) := (cc _ _ (by simp)).trans (by go_simp)); (have q4 : w1.cell? ⟨w.heap.size, 4, none⟩ = some (.int .i64 y1) := (cc _ _ (by simp)).trans (by go_simp)); (have q5 : w1.cell? ⟨w.heap.size, 5, none⟩ = some (.slice A n c) := (cc _ _ (by simp)).trans (by go_simp)); clear hg hd cc ff))
    go_ret
    exact ⟨false, rfl, fun h => Bool.noConfusion h, gb_alloc HG.out _⟩
end Go.Proofs.YtgjpohmjkhgpfaaGreat
