/- The reference's multiplied at all kinds. No condition. -/
import Derived.Test.YtgjpohmjkhgpfaaGreatLG
set_option linter.unusedSimpArgs false
set_option linter.unusedVariables false
namespace Go.Proofs.YtgjpohmjkhgpfaaGreat
open Go.RowKit

theorem run_max3i (a b c : Int) (ts : Array TypeId) (t : TypeId) (w : World) : (Builtin.max_ ts t #[.int .i64 a, .int .i64 b, .int .i64 c]).run Tryz.prog w = .ok (.int .i64 (hi2 (hi2 a b) c)) w := by
  unfold hi2
  by_cases h : a < b
  · by_cases h' : b < c <;> simp [Builtin.max_, Builtin.max2, h, h']
  · by_cases h' : a < c <;> simp [Builtin.max_, Builtin.max2, h, h']
/-- no color of the first m pixels of eight bytes is above alpha -/
def Mul8 (p : Nat → Int) (m : Nat) : Prop := ∀ j, j < m → wd (fun i => p (8 * j + i)) 0 ≤ wd (fun i => p (8 * j + i)) 3 ∧ wd (fun i => p (8 * j + i)) 1 ≤ wd (fun i => p (8 * j + i)) 3 ∧ wd (fun i => p (8 * j + i)) 2 ≤ wd (fun i => p (8 * j + i)) 3
set_option maxRecDepth 100000 in
set_option maxHeartbeats 8000000 in
theorem mult8_c {k x0 y0 x1 y1 : Int} {A : Option Addr} {n c : Nat} {p : Nat → Int} (w : World) (hk : k = 4 ∨ k = 6) (h : Rd w A n p) (hp : By p) (hn : n ≤ 2147483647) (hc : n ≤ c) (hc2 : c ≤ 9223372036854775807) :
    Calls Tryz.prog 30 #[vI k x0 y0 x1 y1 A n c] w (BoolOut w (Mul8 p (n / 8))) := by
  have H := hid h
  have HP := hid hp
  clear h hp
  have hmx := fun a b d ts t w => run_max3i a b d ts t w
  rcases hk with rfl | rfl
  all_goals
    go_enter Tryz.func30, Tryz.ntmps30
    go_wp2
    go_loopw [5] (fun u wr => ∃ j : Nat, 8 * j ≤ n ∧ u = .int .i64 ((8 * j : Nat) : Int) ∧ Mul8 p j ∧ w.grownBy wr none ∧ wr.cell? ⟨w.heap.size, 5, none⟩ = some (.slice A n c)) (fun u _ => n - (intOf u).toNat)
    case atStart => exact ⟨0, by omega, rfl, fun j hj => absurd hj (by omega), gb_alloc (gb_refl _ _) _, by go_simp⟩
    case round =>
      obtain ⟨j, hj, rfl, hm, hg, h5⟩ := hrel
      have HM := hid hm
      have HG := hid hg
      clear hm hg
      by_cases hlt : 8 * j + 7 < n
      · obtain ⟨a, hA, hb, hca⟩ := H.out (by omega)
        subst hA
        have HC := hid (And.intro hb hca)
        clear hca hb
        have q8 : 8 * j + 8 - 8 * j = 8 := by omega
        go_wp2_with fail
        refine (wide_c (p := fun i => p (8 * j + i)) _ (fun i => HP.out _) (fun i hi => by rw [add_add]; exact (gb_cell0 HG.out (by rw [add_block]; exact HC.out.1)).trans (HC.out.2 _ (by omega)))).mono ?_
        rintro e w1 ⟨rfl, hg⟩
        have h6 : w1.cell? ⟨w.heap.size, 5, none⟩ = some (.slice (some a) n c) := (gb_cell0 hg (p := ⟨w.heap.size, 5, none⟩) (World.block_lt_of_cell? _ _ h5)).trans h5
        have zz := World.block_lt_of_cell? _ _ h6
        have HG1 := hid (gb_trans HG.out hg)
        clear hg h5
        obtain ⟨v0, hv0⟩ : ∃ v, wd (fun i => p (8 * j + i)) 0 = v := ⟨_, rfl⟩
        obtain ⟨v1, hv1⟩ : ∃ v, wd (fun i => p (8 * j + i)) 1 = v := ⟨_, rfl⟩
        obtain ⟨v2, hv2⟩ : ∃ v, wd (fun i => p (8 * j + i)) 2 = v := ⟨_, rfl⟩
        obtain ⟨v3, hv3⟩ : ∃ v, wd (fun i => p (8 * j + i)) 3 = v := ⟨_, rfl⟩
        rw [hv0, hv1, hv2, hv3]
        have HV := hid (And.intro hv0 (And.intro hv1 (And.intro hv2 hv3)))
        clear hv0 hv1 hv2 hv3
        by_cases hv : v3 < hi2 (hi2 v0 v1) v2
        · go_wp2
          go_ret
          exact ⟨false, rfl, fun h => Bool.noConfusion h, by (repeat (first | exact HG1.out | refine gb_drew ?_ | refine gb_alloc ?_ _ | refine gb_setCell ?_ (.inr (by simp <;> omega)) _))⟩
        · go_wp2
          refine ⟨⟨j + 1, by omega, by go_num, ?_, by (repeat (first | exact HG1.out | refine gb_drew ?_ | refine gb_alloc ?_ _ | refine gb_setCell ?_ (.inr (by simp <;> omega)) _)), by go_simp⟩, by simp [intOf]; omega⟩
          intro i hi
          by_cases hij : i < j
          · exact HM.out i hij
          · obtain rfl : i = j := by omega
            obtain ⟨e0, e1, e2, e3⟩ := HV.out
            rw [hi2_eq, hi2_eq] at hv
            rw [e0, e1, e2, e3]
            omega
      · go_wp2
        go_ret
        refine ⟨true, rfl, fun _ i hi => HM.out i (by omega), HG.out⟩
set_option maxRecDepth 100000 in
set_option maxHeartbeats 2000000 in
theorem mult1_c {k x0 y0 x1 y1 : Int} {A : Option Addr} {n c : Nat} (w : World) (h0 : k ≠ 0) (h4 : k ≠ 4) (h6 : k ≠ 6) :
    Calls Tryz.prog 30 #[vI k x0 y0 x1 y1 A n c] w (BoolOut w True) := by
  have b0 : (k == 0) = false := beq_eq_false_iff_ne.2 h0
  have b4 : (k == 4) = false := beq_eq_false_iff_ne.2 h4
  have b6 : (k == 6) = false := beq_eq_false_iff_ne.2 h6
  clear h0 h4 h6
  go_enter Tryz.func30, Tryz.ntmps30
  go_wp2
  go_ret
  exact ⟨true, rfl, fun _ => trivial, gb_alloc (gb_refl _ _) _⟩
end Go.Proofs.YtgjpohmjkhgpfaaGreat
