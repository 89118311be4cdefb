/- What the statement of FnMoved lays open: an array of six numbers. No condition. -/
import Derived.Test.YtgjpohmjkhgpfaaGreatHb
set_option linter.unusedSimpArgs false
set_option linter.unusedVariables false
namespace Go.Proofs.YtgjpohmjkhgpfaaGreat
open Go.RowKit

section
variable {H : Type} {enc : TypeId × Value → H} {w : World} {base : Nat} {spare : Nat → Bool} {held : Bool}
set_option maxRecDepth 100000 in
theorem open_six {r : Reach} {b0 : Nat} {v : Value} {d : DataW H} {pl : List MemPlace} (hv : Value.okWide Tryz.prog w r b0 44 v) (h : DataW.Trod enc Tryz.prog w base spare held 44 v d pl) :
    ∃ r0 r1 r2 r3 r4 r5, v = .agg #[.int .i64 r0, .int .i64 r1, .int .i64 r2, .int .i64 r3, .int .i64 r4, .int .i64 r5] := by
  have hs := Tryz.underlying44
  have hv' : ∃ cs, v = .agg cs ∧ cs.size = Tryz.prog.cellsOf 44 := by
    unfold Value.okWide at hv
    rw [hs] at hv
    obtain ⟨cs, e, hsz, _⟩ := hv
    exact ⟨cs, e, hsz⟩
  obtain ⟨cs, rfl, hsz⟩ := hv'
  obtain ⟨l⟩ := cs
  have hC : Tryz.prog.cellsOf 44 = 6 := by kernel_rfl
  have C3 : Tryz.prog.cellsOf 3 = 1 := by kernel_rfl
  match l, hsz.trans hC with
  | [c0, c1, c2, c3, c4, c5], _ =>
    obtain ⟨fuel, hf⟩ := h
    obtain ⟨xs, n, _, hx, _, hlen, hg⟩ := DataW.trod_array hs hf
    match xs, hlen with
    | [y0, y1, y2, y3, y4, y5], _ =>
      obtain ⟨k0, e0, -, -⟩ := DataW.trod_int Tryz.underlying3 (show DataW.trod enc Tryz.prog w base spare held n 3 [c0] = some y0 by simpa [Value.cells, C3] using hg 0 (by omega))
      obtain ⟨k1, e1, -, -⟩ := DataW.trod_int Tryz.underlying3 (show DataW.trod enc Tryz.prog w base spare held n 3 [c1] = some y1 by simpa [Value.cells, C3] using hg 1 (by omega))
      obtain ⟨k2, e2, -, -⟩ := DataW.trod_int Tryz.underlying3 (show DataW.trod enc Tryz.prog w base spare held n 3 [c2] = some y2 by simpa [Value.cells, C3] using hg 2 (by omega))
      obtain ⟨k3, e3, -, -⟩ := DataW.trod_int Tryz.underlying3 (show DataW.trod enc Tryz.prog w base spare held n 3 [c3] = some y3 by simpa [Value.cells, C3] using hg 3 (by omega))
      obtain ⟨k4, e4, -, -⟩ := DataW.trod_int Tryz.underlying3 (show DataW.trod enc Tryz.prog w base spare held n 3 [c4] = some y4 by simpa [Value.cells, C3] using hg 4 (by omega))
      obtain ⟨k5, e5, -, -⟩ := DataW.trod_int Tryz.underlying3 (show DataW.trod enc Tryz.prog w base spare held n 3 [c5] = some y5 by simpa [Value.cells, C3] using hg 5 (by omega))
      injection e0 with e0; injection e1 with e1; injection e2 with e2; injection e3 with e3; injection e4 with e4; injection e5 with e5
      subst e0 e1 e2 e3 e4 e5
      exact ⟨k0, k1, k2, k3, k4, k5, rfl⟩
end
end Go.Proofs.YtgjpohmjkhgpfaaGreat
