/- The reference's Valid, at kind RGBA; places. No condition. -/
import Derived.Test.YtgjpohmjkhgpfaaGreatLB
import Derived.Test.YtgjpohmjkhgpfaaGreatK
import Derived.Deep.RegionWith
import Derived.IntWalk
set_option linter.unusedSimpArgs false
set_option linter.unusedVariables false
namespace Go.Proofs.YtgjpohmjkhgpfaaGreat
open Go.RowKit

theorem add_add (a : Addr) (i k : Nat) : (a.add i).add k = a.add (i + k) := by
  unfold Addr.add
  by_cases h1 : i = 0
  · subst h1; simp
  · by_cases h2 : k = 0
    · subst h2; simp
    · rw [if_neg h1, if_neg h2, if_neg (by omega)]; simp [Nat.add_assoc]
theorem run_max3 (a b c : Int) (ts : Array TypeId) (t : TypeId) (w : World) : (Builtin.max_ ts t #[.int .u8 a, .int .u8 b, .int .u8 c]).run Tryz.prog w = .ok (.int .u8 (hi2 (hi2 a b) c)) w := by
  unfold hi2
  by_cases h : a < b
  · by_cases h' : b < c <;> simp [Builtin.max_, Builtin.max2, h, h']
  · by_cases h' : a < c <;> simp [Builtin.max_, Builtin.max2, h, h']

set_option maxRecDepth 100000 in
set_option maxHeartbeats 2000000 in
theorem size0_c (w : World) : Calls Tryz.prog 27 #[.int .i64 0] w fun e w' => e = .returned (.int .i64 4) ∧ w = w' := by
  go_enter Tryz.func27, Tryz.ntmps27
  go_wp2
  go_ret
  exact ⟨rfl, rfl⟩

/-- no color of the first m pixels is above alpha -/
def Mul0 (p : Nat → Int) (m : Nat) : Prop := ∀ j, j < m → p (4 * j) ≤ p (4 * j + 3) ∧ p (4 * j + 1) ≤ p (4 * j + 3) ∧ p (4 * j + 2) ≤ p (4 * j + 3)
set_option maxRecDepth 100000 in
set_option maxHeartbeats 8000000 in
theorem mult0_c {x0 y0 x1 y1 : Int} {A : Option Addr} {n c : Nat} {p : Nat → Int} (w : World) (h : Rd w A n p) (hp : By p) (hn : n ≤ 2147483647) (hc : n ≤ c) (hc2 : c ≤ 9223372036854775807) :
    Calls Tryz.prog 30 #[vI 0 x0 y0 x1 y1 A n c] w (BoolOut w (Mul0 p (n / 4))) := by
  have H := hid h
  have HP := hid hp
  clear h hp
  have hmx := fun a b d ts t w => run_max3 a b d ts t w
  go_enter Tryz.func30, Tryz.ntmps30
  go_wp2
  go_loopw [3] (fun u wr => ∃ j : Nat, 4 * j ≤ n ∧ u = .int .i64 ((4 * j : Nat) : Int) ∧ Mul0 p j ∧ w.grownBy wr none ∧ wr.cell? ⟨w.heap.size, 5, none⟩ = some (.slice A n c)) (fun u _ => n - (intOf u).toNat)
  case atStart => exact ⟨0, by omega, rfl, fun j hj => absurd hj (by omega), gb_alloc (gb_refl _ _) _, by go_simp⟩
  case round =>
    obtain ⟨j, hj, rfl, hm, hg, h5⟩ := hrel
    have HM := hid hm
    have HG := hid hg
    clear hm hg
    by_cases hlt : 4 * j + 3 < n
    · obtain ⟨a, hA, hb, hca⟩ := H.out (by omega)
      subst hA
      have k0 : wr.cell? (a.add (4 * j)) = some (.int .u8 (p (4 * j))) := (gb_cell0 HG.out (by rw [add_block]; exact hb)).trans (hca _ (by omega))
      have k1 : wr.cell? ⟨(a.add (4 * j)).block, (a.add (4 * j)).off + 1, none⟩ = some (.int .u8 (p (4 * j + 1))) := by show wr.cell? ((a.add (4 * j)).add 1) = _; rw [add_add]; exact (gb_cell0 HG.out (by rw [add_block]; exact hb)).trans (hca _ (by omega))
      have k2 : wr.cell? ⟨(a.add (4 * j)).block, (a.add (4 * j)).off + 2, none⟩ = some (.int .u8 (p (4 * j + 2))) := by show wr.cell? ((a.add (4 * j)).add 2) = _; rw [add_add]; exact (gb_cell0 HG.out (by rw [add_block]; exact hb)).trans (hca _ (by omega))
      have k3 : wr.cell? ⟨(a.add (4 * j)).block, (a.add (4 * j)).off + 3, none⟩ = some (.int .u8 (p (4 * j + 3))) := by show wr.cell? ((a.add (4 * j)).add 3) = _; rw [add_add]; exact (gb_cell0 HG.out (by rw [add_block]; exact hb)).trans (hca _ (by omega))
      clear hca hb
      have q4 : 4 * j + 4 - 4 * j = 4 := by omega
      by_cases hv : p (4 * j + 3) < hi2 (hi2 (p (4 * j)) (p (4 * j + 1))) (p (4 * j + 2))
      · go_wp2
        go_quiet (fail)
        go_wp2
        go_ret
        exact ⟨false, rfl, fun h => Bool.noConfusion h, gb_drewN HG.out _⟩
      · go_wp2
        go_quiet (fail)
        go_wp2
        refine ⟨⟨j + 1, by omega, by go_num, ?_, gb_drewN HG.out _, by go_simp⟩, by simp [intOf]; omega⟩
        intro i hi
        by_cases hij : i < j
        · exact HM.out i hij
        · obtain rfl : i = j := by omega
          rw [hi2_eq, hi2_eq] at hv
          omega
    · go_wp2
      go_ret
      refine ⟨true, rfl, fun _ i hi => HM.out i (by omega), HG.out⟩
end Go.Proofs.YtgjpohmjkhgpfaaGreat
