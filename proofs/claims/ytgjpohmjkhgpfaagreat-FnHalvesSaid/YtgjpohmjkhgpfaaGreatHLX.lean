/- A row of bytes 0 that is made anew; a region whose operations yield values of which something is known. No condition. -/
import Derived.Test.YtgjpohmjkhgpfaaGreatHLW
import Derived.OwnWalk
set_option linter.unusedSimpArgs false
set_option linter.unusedVariables false
namespace Go.Proofs.YtgjpohmjkhgpfaaGreat
open Go.RowKit

theorem madeCells_at {z : Value} {n i : Nat} (h : i < n) : (madeCells #[z] n)[i]? = some z := by
  simp [madeCells, h, Nat.mod_one]

set_option maxRecDepth 1000000 in
theorem mk_zero (n : Nat) (h : n ≤ 2147483647) (w : World) :
    (Instr.makeSlice 22 (.int .i64 (n : Int)) (.int .i64 (n : Int))).run Tryz.prog w = .ok (.slice (some ⟨w.heap.size, 0, none⟩) n n) (w.alloc (.cells (madeCells #[.int .u8 0] n) 5)) := by
  obtain ⟨i, hi, hz, hs, hb⟩ := info_parts (P := Tryz.prog) (e := 5) (z := .int .u8 0) (size := 1) (bytes := 1) (by kernel_rfl)
  have hr := run_make (P := Tryz.prog) w 22 5 i _ Tryz.underlying22 hi hz .i64 .i64 (n : Int) (n : Int) (by omega) (by omega) (by rw [hb]; omega) (by omega)
  rw [hs, Nat.mul_one, Int.toNat_natCast] at hr
  exact hr
theorem rd_zero (n : Nat) (w : World) : Rd (w.alloc (.cells (madeCells #[.int .u8 0] n) 5)) (some ⟨w.heap.size, 0, none⟩) n (fun _ => 0) := by
  refine fun _ => ⟨_, rfl, by simp, fun j hj => ?_⟩
  have ha : (⟨w.heap.size, 0, none⟩ : Addr).add j = ⟨w.heap.size, j, none⟩ := by unfold Addr.add; by_cases h : j = 0 <;> simp [h]
  rw [ha]
  refine cell_at (C := madeCells #[.int .u8 0] n) (t := 5) (f := (0, 0)) ?_ (madeCells_at hj)
  show (w.heap.push (.cells (madeCells #[.int .u8 0] n) 5 (0, 0)))[w.heap.size]? = _
  simp

theorem by0 : By (fun _ => (0 : Int)) := fun _ => ⟨by show (0 : Int) ≤ 0; decide, by show (0 : Int) ≤ 255; decide⟩
theorem pmk_zero {k : Nat} (hk : k ≤ 6) : Pmk k (fun _ => 0) := by
  intro j
  have h : (k = 1 ∨ k = 2 ∨ k = 3 ∨ k = 5) ∨ k = 0 ∨ k = 4 ∨ k = 6 := by omega
  rcases h with h | h
  · exact Pm_of by0 h
  · exact pm_zero h (fun _ => rfl)
theorem dat_zero {k : Nat} {X0 Y0 X1 Y1 x0 y0 x1 y1 : Int} {n : Nat} {p : Nat → Int} (D : Dat k X0 Y0 X1 Y1 x0 y0 x1 y1 n p) : Dat k X0 Y0 X1 Y1 x0 y0 x1 y1 n (fun _ => 0) := by
  obtain ⟨-, h⟩ := D
  exact ⟨by0, h⟩
theorem CellsAt.keptN {w w' : World} {b g : Nat} {vs : List Value} (h : CellsAt w b vs) (hg : w.grownBy w' (some g)) (hne : b ≠ g) : CellsAt w' b vs := fun i v hv =>
  (gb_cell hg (p := ⟨b, i, none⟩) (World.block_lt_of_cell? w _ (h i v hv)) hne).trans (h i v hv)

/-- the values, the variables, and what is known of the others -/
def JQ (W0 : World) (V : List (Option Value)) (vs : List (Nat × Nat × List Value)) (R : Nat → Value → World → Prop) (l : Nat → Bool) (t : Nat → Value) (w : World) : Prop :=
  JV W0 V vs l t w ∧ ∀ i, l i = true → R i (t i) w
section
variable {W0 w w' : World} {V : List (Option Value)} {vs : List (Nat × Nat × List Value)} {R : Nat → Value → World → Prop} {l : Nat → Bool} {t : Nat → Value} {i : Nat}
theorem JQ.start (hg : W0.grownBy w none) : JQ W0 V vs R (fun _ => false) t w := ⟨JV.start hg, fun _ h => (by cases h)⟩
theorem JQ.pure (h : JQ W0 V vs R l t w) (hR : ∀ j v w w', R j v w → w.grownBy w' none → R j v w') (hg : w.grownBy w' none) {v : Value} (hv : V[i]? = some (some v)) (hni : niB vs i = true) (hr : R i v w') : JQ W0 V vs R (upd l i true) (upd t i v) w' := by
  refine ⟨h.1.pure hg hv hni, fun j hl => ?_⟩
  by_cases e : j = i
  · subst e
    rw [upd_same]
    exact hr
  · rw [upd_ne _ _ e] at hl ⊢
    exact hR _ _ _ _ (h.2 j hl) hg
theorem JQ.any (h : JQ W0 V vs R l t w) (hR : ∀ j v w w', R j v w → w.grownBy w' none → R j v w') (hg : w.grownBy w' none) (hv : V[i]? = some none) (hni : niB vs i = true) {v : Value} (hr : R i v w') : JQ W0 V vs R (upd l i true) (upd t i v) w' := by
  refine ⟨h.1.any hg hv hni v, fun j hl => ?_⟩
  by_cases e : j = i
  · subst e
    rw [upd_same]
    exact hr
  · rw [upd_ne _ _ e] at hl ⊢
    exact hR _ _ _ _ (h.2 j hl) hg
end
/-- a row of 8 bytes 0 as a mask of one color; a row of bytes of its own -/
def R8 (n B : Nat) (q : Nat → Int) (os : List Nat) (i0 i1 : Nat) (i : Nat) (v : Value) (w : World) : Prop :=
  (i = i0 → ∃ g, v = .slice (some ⟨g, 0, none⟩) 8 8 ∧ Rd w (some ⟨g, 0, none⟩) 8 (fun _ => 0)) ∧
  (i = i1 → ∃ g, v = vI ((6 : Nat) : Int) 0 0 0 0 (some ⟨g, 0, none⟩) 8 8 ∧ Rd w (some ⟨g, 0, none⟩) 8 (fun _ => 0)) ∧
  (os.contains i = true → ∃ A c, v = .slice A n c ∧ Own w B n q A c)
theorem R8.kept {n B : Nat} {q : Nat → Int} {os : List Nat} {i0 i1 : Nat} : ∀ i v w w', R8 n B q os i0 i1 i v w → w.grownBy w' none → R8 n B q os i0 i1 i v w' := by
  intro i v w w' h hg
  refine ⟨fun e => ?_, fun e => ?_, fun e => ?_⟩
  · obtain ⟨g, h1, h2⟩ := h.1 e
    exact ⟨g, h1, h2.kept0 hg⟩
  · obtain ⟨g, h1, h2⟩ := h.2.1 e
    exact ⟨g, h1, h2.kept0 hg⟩
  · obtain ⟨A, c, h1, h2⟩ := h.2.2 e
    exact ⟨A, c, h1, h2.kept0 hg⟩
end Go.Proofs.YtgjpohmjkhgpfaaGreat
