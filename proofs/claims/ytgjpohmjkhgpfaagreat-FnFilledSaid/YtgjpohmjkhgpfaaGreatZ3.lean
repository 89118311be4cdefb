/- An image of one color made of data. The eight bytes are there. -/
import Derived.Test.YtgjpohmjkhgpfaaGreatZ1
set_option linter.unusedSimpArgs false
set_option linter.unusedVariables false
namespace Go.Proofs.YtgjpohmjkhgpfaaGreat
open Go.RowKit

/-- the captured slice and its bytes -/
def UV (w : World) (g h c : Nat) (C : Array Value) : Prop := w.cell? ⟨g, 0, none⟩ = some (.slice (some ⟨h, 0, none⟩) 8 c) ∧ g < w.heap.size ∧ w.heap[h]? = some (.cells C 5 (0, 0))
theorem UV.kept {w w' : World} {g h c : Nat} {C : Array Value} (H : UV w g h c C) (hg : w.grownBy w' none) : UV w' g h c C :=
  ⟨(gb_cell0 hg H.2.1).trans H.1, Nat.lt_of_lt_of_le H.2.1 hg.size, (gb_block0 hg (lt_of_block H.2.2)).trans H.2.2⟩
set_option maxRecDepth 100000 in
set_option maxHeartbeats 4000000 in
theorem uni_v {g h c : Nat} {p : Nat → Int} {C : Array Value} (i : Nat) (z : Int) (hz : z = i) (w : World) (hi : i < 4) (hp : By p) (hU : UV w g h c C) (hC : ∀ i, i < 8 → C[i]? = some (.int .u8 (p i))) :
    Calls Tryz.prog 46 #[.int .i64 z, .pointer (some ⟨g, 0, none⟩)] w fun e w' => e = .returned (.int .u16 (cl 6 p i)) ∧ w.grownBy w' none := by
  subst hz
  obtain ⟨h0, -, hc⟩ := hU
  have g0 := hp (2 * i); have g1 := hp (2 * i + 1)
  have o1 := or16 g0 g1
  have c0 : w.cell? ⟨h, 2 * i, none⟩ = some (.int .u8 (p (2 * i))) := cell_at hc (hC _ (by omega))
  have c1 : w.cell? ⟨h, 2 * i + 1, none⟩ = some (.int .u8 (p (2 * i + 1))) := cell_at hc (hC _ (by omega))
  have e1 : 2 * i < 8 := by omega
  have e2 : 2 * i + 1 < 8 := by omega
  have Hp := hid hp
  have Hc := hid hc
  have HC := hid hC
  clear hp hc hC
  go_enter Tryz.func46, Tryz.ntmps46
  go_wp2
  go_quiet (fail)
  go_wp2
  go_ret
  refine ⟨?_, gb_drewN (gb_refl _ _) _⟩
  rw [cl6]; rfl

/-- an image of one color that was made -/
def MadeU (w : World) (p : Nat → Int) (e : Ending) (w' : World) : Prop :=
  ∃ b, e = .returned (.iface 100 (.pointer (some ⟨b, 0, none⟩))) ∧ w.heap.size ≤ b ∧ b < w'.heap.size ∧ w'.cell? ⟨b, 0, none⟩ = some (.iface 103 (c64 (cl 6 p))) ∧ w.grownBy w' none

set_option maxRecDepth 100000 in
set_option maxHeartbeats 4000000 in
theorem newUniform_c (v : Value) (t : TypeId) (w : World) :
    Calls Tryz.prog 47 #[.iface t v] w fun e w' => e = .returned (.pointer (some ⟨w.heap.size, 0, none⟩)) ∧ w.alloc (.cells #[.iface t v] 138) = w' := by
  go_enter Tryz.func47, Tryz.ntmps47
  go_wp2
  go_ret
  exact ⟨rfl, rfl⟩

set_option maxRecDepth 100000 in
set_option maxHeartbeats 4000000 in
theorem make_Uniform {x0 y0 x1 y1 : Int} {A : Option Addr} {c : Nat} {p : Nat → Int} (w : World) (h : Rd w A 8 p) (hp : By p) :
    Calls Tryz.prog 41 #[vI 6 x0 y0 x1 y1 A 8 c] w (MadeU w p) := by
  have H := hid h
  have Hp := hid hp
  clear h hp
  go_enter Tryz.func41, Tryz.ntmps41
  go_wp2_with (at_builtin
               refine wpList_copy rfl _ _ rfl rfl rfl A 8 c p rfl (H.out.kept0 (by (repeat (first | exact gb_refl _ _ | refine gb_alloc ?_ _ | refine gb_setCell ?_ (.inr (by simp <;> omega)) _)))) (by omega) ?_
               intro A' c' w1 hown hg
               have Hg := hid hg
               have hz := hg.size
               obtain ⟨cc, ff⟩ := gb_rules hg
               simp at hz
               have z1 : w.heap.size < w1.heap.size := by omega
               have z2 : w.heap.size + 1 < w1.heap.size := by omega
               have q0 : w1.cell? ⟨w.heap.size, 0, none⟩ = some (.int .i64 6) := (cc _ _ (by simp; omega)).trans (by go_simp)
               have q1 : w1.cell? ⟨w.heap.size, 1, none⟩ = some (.int .i64 x0) := (cc _ _ (by simp; omega)).trans (by go_simp)
               have q3 : w1.cell? ⟨w.heap.size, 3, none⟩ = some (.int .i64 x1) := (cc _ _ (by simp; omega)).trans (by go_simp)
               obtain ⟨g', C, rfl, hC⟩ : ∃ g' C, A' = some ⟨g', 0, none⟩ ∧ w1.heap[g']? = some (.cells C 5 (0, 0)) ∧ ∀ i, i < 8 → C[i]? = some (.int .u8 (p i)) := by
                 rcases hown with ⟨h0, _⟩ | ⟨g', C, e, _, hb, _, _, hc⟩
                 · omega
                 · exact ⟨g', C, e, hb, hc⟩
               have HC := hid hC
               have hU0 : UV (w1.alloc (.cells #[.slice (some ⟨g', 0, none⟩) 8 c'] 22)) w1.heap.size g' c' C := ⟨by go_simp, by simp, by rw [Below.heap_alloc _ _ _ (lt_of_block hC.1)]; exact hC.1⟩
               have HU := hid hU0
               clear hU0
               have HG := hid (gb_alloc (gb_trans (gb_alloc (gb_alloc (gb_refl w none) (.cells #[.int .i64 6, .int .i64 x0, .int .i64 y0, .int .i64 x1, .int .i64 y1, .slice A 8 c] 64)) (.cells #[.int .i64 x0, .int .i64 y0, .int .i64 x1, .int .i64 y1] 78)) Hg.out) (.cells #[.slice (some ⟨g', 0, none⟩) 8 c'] 22))
               clear hown hg cc ff hz hC)
  refine (uni_v 0 0 rfl _ (by omega) Hp.out HU.out HC.out.2).mono ?_
  rintro e w2 ⟨rfl, hg2⟩
  have HU2 := hid (HU.out.kept hg2)
  have HG2 := hid (gb_trans HG.out hg2)
  clear hg2
  go_wp2_with fail
  refine (uni_v 1 1 rfl _ (by omega) Hp.out HU2.out HC.out.2).mono ?_
  rintro e w3 ⟨rfl, hg3⟩
  have HU3 := hid (HU2.out.kept hg3)
  have HG3 := hid (gb_trans HG2.out hg3)
  clear hg3
  go_wp2_with fail
  refine (uni_v 2 2 rfl _ (by omega) Hp.out HU3.out HC.out.2).mono ?_
  rintro e w4 ⟨rfl, hg4⟩
  have HU4 := hid (HU3.out.kept hg4)
  have HG4 := hid (gb_trans HG3.out hg4)
  clear hg4
  go_wp2_with fail
  refine (uni_v 3 3 rfl _ (by omega) Hp.out HU4.out HC.out.2).mono ?_
  rintro e w5 ⟨rfl, hg5⟩
  have HG5 := hid (gb_trans HG4.out hg5)
  clear hg5
  go_wp2_with fail
  refine (newUniform_c _ _ _).mono ?_
  rintro e w6 ⟨rfl, rfl⟩
  go_wp2_with fail
  go_ret
  refine ⟨w5.heap.size, rfl, HG5.out.size, by simp, by go_simp, gb_alloc HG5.out _⟩
end Go.Proofs.YtgjpohmjkhgpfaaGreat
