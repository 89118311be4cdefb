/- What comes in: an image as data, a rectangle's four numbers. No condition. -/
import Derived.Test.YtgjpohmjkhgpfaaGreatLB
import Derived.Test.YtgjpohmjkhgpfaaGreatK
import Derived.ProofKit
import Derived.OpenShut
import Derived.ChangeOld
import Derived.Below
import Derived.Deep.Fields
set_option linter.unusedSimpArgs false
set_option linter.unusedVariables false
namespace Go.Proofs.YtgjpohmjkhgpfaaGreat
open Go.ChangeShapes Go.WideShapes Go.ChangeAt Go.RowKit

theorem own : ownKnob Tryz.prog.godebug = none := by kernel_rfl
theorem laidOut : laidOutB Tryz.prog = true := by kernel_rfl
/-- an image that came in -/
def InI (w : World) (A : Option Addr) (n c : Nat) (p : Nat → Int) : Prop := Rd w A n p ∧ By p ∧ (∀ i, n ≤ i → p i = 0) ∧ n ≤ c ∧ c ≤ 9223372036854775807
section
variable {H : Type} {enc : TypeId × Value → H} {w : World} {base : Nat} {spare : Nat → Bool} {held : Bool}
theorem open_bytes {fuel : Nat} {v : Value} {y : DataW H × List MemPlace} (h : DataW.trod enc Tryz.prog w base spare held fuel 22 [v] = some y) :
    ∃ A n c p, v = .slice A n c ∧ InI w A n c p := by
  rcases open_ints Tryz.underlying22 Tryz.underlying5 (by kernel_rfl) h with ⟨hcs, _⟩ | ⟨a, l, c, zs, hcs, _, hl, hm, hz, _, hcell, hwf⟩
  · injection hcs with hcs; subst hcs
    exact ⟨none, 0, 0, fun _ => 0, rfl, Rd.nil _ _ _, fun _ => ⟨Int.le_refl 0, (by decide : (0 : Int) ≤ 255)⟩, fun _ _ => rfl, Nat.le_refl _, by omega⟩
  · injection hcs with hcs; subst hcs
    have hlz : l ≤ zs.length := by rw [hz]; split <;> omega
    refine ⟨some a, l, c, fun i => if i < l then zs.getD i 0 else 0, rfl, ?_, ?_, ?_, hl, by simp only [maxLen] at hm; omega⟩
    · intro hn
      refine ⟨a, rfl, ?_, fun i hi => ?_⟩
      · have := World.block_lt_of_cell? w _ (hcell 0 (by omega))
        rw [add_block] at this; exact this
      · rw [hcell i (by omega)]; show _ = some (Value.int .u8 (if i < l then zs.getD i 0 else 0)); rw [if_pos hi]
    · intro i
      dsimp only
      split
      · rename_i hi
        have hmem : zs.getD i 0 ∈ zs := by
          rw [List.getD_eq_getElem?_getD, List.getElem?_eq_getElem (by omega)]; exact List.getElem_mem _
        generalize zs.getD i 0 = z at hmem ⊢
        have := hwf _ hmem
        simp [Lit.wf, IntKind.min, IntKind.max, IntKind.signed, IntKind.bits] at this
        exact ⟨by omega, by omega⟩
      · exact ⟨by omega, by omega⟩
    · intro i hi
      exact if_neg (by omega)
set_option maxRecDepth 100000 in
theorem open_img {r : Reach} {b0 : Nat} {v : Value} {d : DataW H} {pl : List MemPlace} (hv : Value.okWide Tryz.prog w r b0 24 v) (h : DataW.Trod enc Tryz.prog w base spare held 24 v d pl) :
    ∃ k x0 y0 x1 y1 A n c p, v = .agg #[.int .i64 k, .int .i64 x0, .int .i64 y0, .int .i64 x1, .int .i64 y1, .slice A n c] ∧ InI w A n c p := by
  have hs := Tryz.underlying24
  obtain ⟨cs, rfl, hsz⟩ := okWide_struct hs hv
  obtain ⟨l⟩ := cs
  have hC : Tryz.prog.cellsOf 24 = 6 := by kernel_rfl
  have C3 : Tryz.prog.cellsOf 3 = 1 := by kernel_rfl
  have C22 : Tryz.prog.cellsOf 22 = 1 := by kernel_rfl
  match l, hsz.trans hC with
  | [c0, c1, c2, c3, c4, c5], _ =>
    obtain ⟨fuel, hf⟩ := h
    obtain ⟨xs, n, _, hx, _, hlen, hg⟩ := DataW.trod_struct hs hf
    match xs, hlen with
    | [y0, y1, y2, y3, y4, y5], _ =>
      obtain ⟨k0, e0, -, -⟩ := DataW.trod_int Tryz.underlying3 (show DataW.trod enc Tryz.prog w base spare held n 3 [c0] = some y0 by simpa [Value.cells, C3] using hg 0 _ rfl)
      obtain ⟨k1, e1, -, -⟩ := DataW.trod_int Tryz.underlying3 (show DataW.trod enc Tryz.prog w base spare held n 3 [c1] = some y1 by simpa [Value.cells, C3] using hg 1 _ rfl)
      obtain ⟨k2, e2, -, -⟩ := DataW.trod_int Tryz.underlying3 (show DataW.trod enc Tryz.prog w base spare held n 3 [c2] = some y2 by simpa [Value.cells, C3] using hg 2 _ rfl)
      obtain ⟨k3, e3, -, -⟩ := DataW.trod_int Tryz.underlying3 (show DataW.trod enc Tryz.prog w base spare held n 3 [c3] = some y3 by simpa [Value.cells, C3] using hg 3 _ rfl)
      obtain ⟨k4, e4, -, -⟩ := DataW.trod_int Tryz.underlying3 (show DataW.trod enc Tryz.prog w base spare held n 3 [c4] = some y4 by simpa [Value.cells, C3] using hg 4 _ rfl)
      obtain ⟨A, m, c, p, rfl, hI⟩ := open_bytes (show DataW.trod enc Tryz.prog w base spare held n 22 [c5] = some y5 by simpa [Value.cells, C22] using hg 5 _ rfl)
      injection e0 with e0; injection e1 with e1; injection e2 with e2; injection e3 with e3; injection e4 with e4
      subst e0 e1 e2 e3 e4
      exact ⟨k0, k1, k2, k3, k4, A, m, c, p, rfl, hI⟩
set_option maxRecDepth 100000 in
theorem open_four {r : Reach} {b0 : Nat} {v : Value} {d : DataW H} {pl : List MemPlace} (hv : Value.okWide Tryz.prog w r b0 25 v) (h : DataW.Trod enc Tryz.prog w base spare held 25 v d pl) :
    ∃ r0 r1 r2 r3, v = .agg #[.int .i64 r0, .int .i64 r1, .int .i64 r2, .int .i64 r3] := by
  have hs := Tryz.underlying25
  have hv' : ∃ cs, v = .agg cs ∧ cs.size = Tryz.prog.cellsOf 25 := by
    unfold Value.okWide at hv
    rw [hs] at hv
    obtain ⟨cs, e, hsz, _⟩ := hv
    exact ⟨cs, e, hsz⟩
  obtain ⟨cs, rfl, hsz⟩ := hv'
  obtain ⟨l⟩ := cs
  have hC : Tryz.prog.cellsOf 25 = 4 := by kernel_rfl
  have C3 : Tryz.prog.cellsOf 3 = 1 := by kernel_rfl
  match l, hsz.trans hC with
  | [c0, c1, c2, c3], _ =>
    obtain ⟨fuel, hf⟩ := h
    obtain ⟨xs, n, _, hx, _, hlen, hg⟩ := DataW.trod_array hs hf
    match xs, hlen with
    | [y0, y1, y2, y3], _ =>
      obtain ⟨k0, e0, -, -⟩ := DataW.trod_int Tryz.underlying3 (show DataW.trod enc Tryz.prog w base spare held n 3 [c0] = some y0 by simpa [Value.cells, C3] using hg 0 (by omega))
      obtain ⟨k1, e1, -, -⟩ := DataW.trod_int Tryz.underlying3 (show DataW.trod enc Tryz.prog w base spare held n 3 [c1] = some y1 by simpa [Value.cells, C3] using hg 1 (by omega))
      obtain ⟨k2, e2, -, -⟩ := DataW.trod_int Tryz.underlying3 (show DataW.trod enc Tryz.prog w base spare held n 3 [c2] = some y2 by simpa [Value.cells, C3] using hg 2 (by omega))
      obtain ⟨k3, e3, -, -⟩ := DataW.trod_int Tryz.underlying3 (show DataW.trod enc Tryz.prog w base spare held n 3 [c3] = some y3 by simpa [Value.cells, C3] using hg 3 (by omega))
      injection e0 with e0; injection e1 with e1; injection e2 with e2; injection e3 with e3
      subst e0 e1 e2 e3
      exact ⟨k0, k1, k2, k3, rfl⟩
end
end Go.Proofs.YtgjpohmjkhgpfaaGreat
