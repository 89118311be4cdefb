/- Parts of the proof: what the functions of the package and of the reference do (LJ). No condition but those that each theorem names. -/
import Derived.Test.YtgjpohmjkhgpfaaGreatD06
set_option linter.unusedSimpArgs false
set_option linter.unusedVariables false
namespace Go.Proofs.YtgjpohmjkhgpfaaGreat
open Go.RowKit

/-- four numbers -/
abbrev v4i (a b c d : Int) : Value := .agg #[.int .i64 a, .int .i64 b, .int .i64 c, .int .i64 d]
theorem fu_mul2 {a b : Int} (ha : fu a) (hb : 0 ≤ b ∧ b ≤ 4294836225) : 0 ≤ a * (4294836225 - b) ∧ a * (4294836225 - b) ≤ 281462092005375 := by
  refine ⟨Int.mul_nonneg ha.1 (by omega), ?_⟩
  have := Int.mul_le_mul (c := 65535) (d := 4294836225) ha.2 (show 4294836225 - b ≤ 4294836225 by omega) (by omega) (by decide)
  omega
set_option maxRecDepth 100000 in
set_option maxHeartbeats 8000000 in
theorem comp_c {d0 d1 d2 d3 s0 s1 s2 s3 m : Int} {op : Nat} (w : World) (hop : op ≤ 1) (D0 : fu d0) (D1 : fu d1) (D2 : fu d2) (D3 : fu d3) (S0 : fu s0) (S1 : fu s1) (S2 : fu s2) (S3 : fu s3) (M : fu m) :
    Calls Tryz.prog 33 #[v4i d0 d1 d2 d3, v4i s0 s1 s2 s3, .int .i64 m, .int .i64 op] w fun e w' => e = .returned (v4i (cmp op d0 s0 s3 m) (cmp op d1 s1 s3 m) (cmp op d2 s2 s3 m) (cmp op d3 s3 s3 m)) ∧ w.grownBy w' none := by
  obtain ⟨a0, fa0⟩ : ∃ a, s0 * m = a := ⟨_, rfl⟩
  have ga0 := fu_mul S0 M
  rw [fa0] at ga0
  obtain ⟨a1, fa1⟩ : ∃ a, s1 * m = a := ⟨_, rfl⟩
  have ga1 := fu_mul S1 M
  rw [fa1] at ga1
  obtain ⟨a2, fa2⟩ : ∃ a, s2 * m = a := ⟨_, rfl⟩
  have ga2 := fu_mul S2 M
  rw [fa2] at ga2
  obtain ⟨a3, fa3⟩ : ∃ a, s3 * m = a := ⟨_, rfl⟩
  have ga3 := fu_mul S3 M
  rw [fa3] at ga3
  obtain ⟨e0, fe0⟩ : ∃ e, d0 * (4294836225 - a3) = e := ⟨_, rfl⟩
  have ge0 := fu_mul2 D0 ga3
  rw [fe0] at ge0
  obtain ⟨e1, fe1⟩ : ∃ e, d1 * (4294836225 - a3) = e := ⟨_, rfl⟩
  have ge1 := fu_mul2 D1 ga3
  rw [fe1] at ge1
  obtain ⟨e2, fe2⟩ : ∃ e, d2 * (4294836225 - a3) = e := ⟨_, rfl⟩
  have ge2 := fu_mul2 D2 ga3
  rw [fe2] at ge2
  obtain ⟨e3, fe3⟩ : ∃ e, d3 * (4294836225 - a3) = e := ⟨_, rfl⟩
  have ge3 := fu_mul2 D3 ga3
  rw [fe3] at ge3
  have hop' : op = 0 ∨ op = 1 := by omega
  rcases hop' with rfl | rfl
  · have E0 : cmp 0 d0 s0 s3 m = a0 * 65535 + e0 := by unfold cmp; simp [fa0, fa3, fe0]
    have E1 : cmp 0 d1 s1 s3 m = a1 * 65535 + e1 := by unfold cmp; simp [fa1, fa3, fe1]
    have E2 : cmp 0 d2 s2 s3 m = a2 * 65535 + e2 := by unfold cmp; simp [fa2, fa3, fe2]
    have E3 : cmp 0 d3 s3 s3 m = a3 * 65535 + e3 := by unfold cmp; simp [fa3, fe3]
    rw [E0, E1, E2, E3]
    have wa : IntKind.i64.wrap a3 = a3 := IntWalk.i64_in _ (by omega)
    have wb : IntKind.i64.wrap (4294836225 - a3) = 4294836225 - a3 := IntWalk.i64_in _ (by omega)
    have we0 : IntKind.i64.wrap e0 = e0 := IntWalk.i64_in _ (by omega)
    have we1 : IntKind.i64.wrap e1 = e1 := IntWalk.i64_in _ (by omega)
    have we2 : IntKind.i64.wrap e2 = e2 := IntWalk.i64_in _ (by omega)
    have we3 : IntKind.i64.wrap e3 = e3 := IntWalk.i64_in _ (by omega)
    have ws0 : IntKind.i64.wrap (a0 * 65535 + e0) = a0 * 65535 + e0 := IntWalk.i64_in _ (by omega)
    have ws1 : IntKind.i64.wrap (a1 * 65535 + e1) = a1 * 65535 + e1 := IntWalk.i64_in _ (by omega)
    have ws2 : IntKind.i64.wrap (a2 * 65535 + e2) = a2 * 65535 + e2 := IntWalk.i64_in _ (by omega)
    have ws3 : IntKind.i64.wrap (a3 * 65535 + e3) = a3 * 65535 + e3 := IntWalk.i64_in _ (by omega)
    clear E0 E1 E2 E3 D0 D1 D2 D3 S0 S1 S2 S3 M
    go_enter Tryz.func33, Tryz.ntmps33
    go_wp2
    go_loopw [11] (fun u wr => w.grownBy wr none ∧ w.heap.size + 3 < wr.heap.size ∧ Cells4 wr w.heap.size d0 d1 d2 d3 ∧ Cells4 wr (w.heap.size + 1) s0 s1 s2 s3 ∧ Cells4 wr (w.heap.size + 2) 0 0 0 0 ∧ ((u = .int .i64 0 ∧ Cells4 wr (w.heap.size + 3) 0 0 0 0) ∨ (u = .int .i64 1 ∧ Cells4 wr (w.heap.size + 3) (a0 * 65535 + e0) 0 0 0) ∨ (u = .int .i64 2 ∧ Cells4 wr (w.heap.size + 3) (a0 * 65535 + e0) (a1 * 65535 + e1) 0 0) ∨ (u = .int .i64 3 ∧ Cells4 wr (w.heap.size + 3) (a0 * 65535 + e0) (a1 * 65535 + e1) (a2 * 65535 + e2) 0) ∨ (u = .int .i64 4 ∧ Cells4 wr (w.heap.size + 3) (a0 * 65535 + e0) (a1 * 65535 + e1) (a2 * 65535 + e2) (a3 * 65535 + e3)))) (fun u _ => (4 - intOf u).toNat)
    case atStart => exact ⟨by (repeat (first | exact gb_refl _ _ | refine gb_alloc ?_ _)), by simp, ⟨by go_simp, by go_simp, by go_simp, by go_simp, by go_simp, by go_simp, by go_simp, by go_simp⟩, ⟨by go_simp, by go_simp, by go_simp, by go_simp, by go_simp, by go_simp, by go_simp, by go_simp⟩, ⟨by go_simp, by go_simp, by go_simp, by go_simp, by go_simp, by go_simp, by go_simp, by go_simp⟩, .inl ⟨rfl, by go_simp, by go_simp, by go_simp, by go_simp, by go_simp, by go_simp, by go_simp, by go_simp⟩⟩
    case round =>
      obtain ⟨hg, hz, ⟨x0, x1, x2, x3, X0, X1, X2, X3⟩, ⟨y0, y1, y2, y3, Y0, Y1, Y2, Y3⟩, ⟨z0, z1, z2, z3, Z0, Z1, Z2, Z3⟩, hrel⟩ := hrel
      have HG := hid hg
      clear hg
      rcases hrel with ⟨rfl, c0, c1, c2, c3, C0, C1, C2, C3⟩ | ⟨rfl, c0, c1, c2, c3, C0, C1, C2, C3⟩ | ⟨rfl, c0, c1, c2, c3, C0, C1, C2, C3⟩ | ⟨rfl, c0, c1, c2, c3, C0, C1, C2, C3⟩ | ⟨rfl, c0, c1, c2, c3, C0, C1, C2, C3⟩
      · go_wp2
        go_region_with (fail)
        all_goals (go_wp2; go_simp; refine ⟨⟨by (repeat (first | exact HG.out | refine gb_drew ?_ | refine gb_setCell ?_ (.inr (by simp <;> omega)) _)), ⟨by go_simp, by go_simp, by go_simp, by go_simp, by go_simp, by go_simp, by go_simp, by go_simp⟩, ⟨by go_simp, by go_simp, by go_simp, by go_simp, by go_simp, by go_simp, by go_simp, by go_simp⟩, ⟨by go_simp, by go_simp, by go_simp, by go_simp, by go_simp, by go_simp, by go_simp, by go_simp⟩, ⟨by go_simp, by go_simp, by go_simp, by go_simp, by go_simp, by go_simp, by go_simp, by go_simp⟩⟩, by first | omega | (simp [intOf] <;> omega)⟩)
      · go_wp2
        go_region_with (fail)
        all_goals (go_wp2; go_simp; refine ⟨⟨by (repeat (first | exact HG.out | refine gb_drew ?_ | refine gb_setCell ?_ (.inr (by simp <;> omega)) _)), ⟨by go_simp, by go_simp, by go_simp, by go_simp, by go_simp, by go_simp, by go_simp, by go_simp⟩, ⟨by go_simp, by go_simp, by go_simp, by go_simp, by go_simp, by go_simp, by go_simp, by go_simp⟩, ⟨by go_simp, by go_simp, by go_simp, by go_simp, by go_simp, by go_simp, by go_simp, by go_simp⟩, ⟨by go_simp, by go_simp, by go_simp, by go_simp, by go_simp, by go_simp, by go_simp, by go_simp⟩⟩, by first | omega | (simp [intOf] <;> omega)⟩)
      · go_wp2
        go_region_with (fail)
        all_goals (go_wp2; go_simp; refine ⟨⟨by (repeat (first | exact HG.out | refine gb_drew ?_ | refine gb_setCell ?_ (.inr (by simp <;> omega)) _)), ⟨by go_simp, by go_simp, by go_simp, by go_simp, by go_simp, by go_simp, by go_simp, by go_simp⟩, ⟨by go_simp, by go_simp, by go_simp, by go_simp, by go_simp, by go_simp, by go_simp, by go_simp⟩, ⟨by go_simp, by go_simp, by go_simp, by go_simp, by go_simp, by go_simp, by go_simp, by go_simp⟩, ⟨by go_simp, by go_simp, by go_simp, by go_simp, by go_simp, by go_simp, by go_simp, by go_simp⟩⟩, by first | omega | (simp [intOf] <;> omega)⟩)
      · go_wp2
        go_region_with (fail)
        all_goals (go_wp2; go_simp; refine ⟨⟨by (repeat (first | exact HG.out | refine gb_drew ?_ | refine gb_setCell ?_ (.inr (by simp <;> omega)) _)), ⟨by go_simp, by go_simp, by go_simp, by go_simp, by go_simp, by go_simp, by go_simp, by go_simp⟩, ⟨by go_simp, by go_simp, by go_simp, by go_simp, by go_simp, by go_simp, by go_simp, by go_simp⟩, ⟨by go_simp, by go_simp, by go_simp, by go_simp, by go_simp, by go_simp, by go_simp, by go_simp⟩, ⟨by go_simp, by go_simp, by go_simp, by go_simp, by go_simp, by go_simp, by go_simp, by go_simp⟩⟩, by first | omega | (simp [intOf] <;> omega)⟩)
      · go_wp2
        exact bodyPost_ret (v := v4i (a0 * 65535 + e0) (a1 * 65535 + e1) (a2 * 65535 + e2) (a3 * 65535 + e3)) (by simp [results, Tryz.results33, go_sem, z0, z1, z2, z3]) rfl ⟨rfl, by (repeat (first | exact HG.out | refine gb_setCell ?_ (.inr (by simp <;> omega)) _))⟩
  · have E0 : cmp 1 d0 s0 s3 m = a0 * 65535 := by unfold cmp; simp [fa0, fa3, fe0]
    have E1 : cmp 1 d1 s1 s3 m = a1 * 65535 := by unfold cmp; simp [fa1, fa3, fe1]
    have E2 : cmp 1 d2 s2 s3 m = a2 * 65535 := by unfold cmp; simp [fa2, fa3, fe2]
    have E3 : cmp 1 d3 s3 s3 m = a3 * 65535 := by unfold cmp; simp [fa3, fe3]
    rw [E0, E1, E2, E3]
    have wa : IntKind.i64.wrap a3 = a3 := IntWalk.i64_in _ (by omega)
    have wb : IntKind.i64.wrap (4294836225 - a3) = 4294836225 - a3 := IntWalk.i64_in _ (by omega)
    have we0 : IntKind.i64.wrap e0 = e0 := IntWalk.i64_in _ (by omega)
    have we1 : IntKind.i64.wrap e1 = e1 := IntWalk.i64_in _ (by omega)
    have we2 : IntKind.i64.wrap e2 = e2 := IntWalk.i64_in _ (by omega)
    have we3 : IntKind.i64.wrap e3 = e3 := IntWalk.i64_in _ (by omega)
    have ws0 : IntKind.i64.wrap (a0 * 65535 + e0) = a0 * 65535 + e0 := IntWalk.i64_in _ (by omega)
    have ws1 : IntKind.i64.wrap (a1 * 65535 + e1) = a1 * 65535 + e1 := IntWalk.i64_in _ (by omega)
    have ws2 : IntKind.i64.wrap (a2 * 65535 + e2) = a2 * 65535 + e2 := IntWalk.i64_in _ (by omega)
    have ws3 : IntKind.i64.wrap (a3 * 65535 + e3) = a3 * 65535 + e3 := IntWalk.i64_in _ (by omega)
    clear E0 E1 E2 E3 D0 D1 D2 D3 S0 S1 S2 S3 M
    go_enter Tryz.func33, Tryz.ntmps33
    go_wp2
    go_loopw [11] (fun u wr => w.grownBy wr none ∧ w.heap.size + 3 < wr.heap.size ∧ Cells4 wr w.heap.size d0 d1 d2 d3 ∧ Cells4 wr (w.heap.size + 1) s0 s1 s2 s3 ∧ Cells4 wr (w.heap.size + 2) 0 0 0 0 ∧ ((u = .int .i64 0 ∧ Cells4 wr (w.heap.size + 3) 0 0 0 0) ∨ (u = .int .i64 1 ∧ Cells4 wr (w.heap.size + 3) (a0 * 65535) 0 0 0) ∨ (u = .int .i64 2 ∧ Cells4 wr (w.heap.size + 3) (a0 * 65535) (a1 * 65535) 0 0) ∨ (u = .int .i64 3 ∧ Cells4 wr (w.heap.size + 3) (a0 * 65535) (a1 * 65535) (a2 * 65535) 0) ∨ (u = .int .i64 4 ∧ Cells4 wr (w.heap.size + 3) (a0 * 65535) (a1 * 65535) (a2 * 65535) (a3 * 65535)))) (fun u _ => (4 - intOf u).toNat)
    case atStart => exact ⟨by (repeat (first | exact gb_refl _ _ | refine gb_alloc ?_ _)), by simp, ⟨by go_simp, by go_simp, by go_simp, by go_simp, by go_simp, by go_simp, by go_simp, by go_simp⟩, ⟨by go_simp, by go_simp, by go_simp, by go_simp, by go_simp, by go_simp, by go_simp, by go_simp⟩, ⟨by go_simp, by go_simp, by go_simp, by go_simp, by go_simp, by go_simp, by go_simp, by go_simp⟩, .inl ⟨rfl, by go_simp, by go_simp, by go_simp, by go_simp, by go_simp, by go_simp, by go_simp, by go_simp⟩⟩
    case round =>
      obtain ⟨hg, hz, ⟨x0, x1, x2, x3, X0, X1, X2, X3⟩, ⟨y0, y1, y2, y3, Y0, Y1, Y2, Y3⟩, ⟨z0, z1, z2, z3, Z0, Z1, Z2, Z3⟩, hrel⟩ := hrel
      have HG := hid hg
      clear hg
      rcases hrel with ⟨rfl, c0, c1, c2, c3, C0, C1, C2, C3⟩ | ⟨rfl, c0, c1, c2, c3, C0, C1, C2, C3⟩ | ⟨rfl, c0, c1, c2, c3, C0, C1, C2, C3⟩ | ⟨rfl, c0, c1, c2, c3, C0, C1, C2, C3⟩ | ⟨rfl, c0, c1, c2, c3, C0, C1, C2, C3⟩
      · go_wp2
        refine ⟨⟨by (repeat (first | exact HG.out | refine gb_drew ?_ | refine gb_setCell ?_ (.inr (by simp <;> omega)) _)), by go_simp, ⟨by go_simp, by go_simp, by go_simp, by go_simp, by go_simp, by go_simp, by go_simp, by go_simp⟩, ⟨by go_simp, by go_simp, by go_simp, by go_simp, by go_simp, by go_simp, by go_simp, by go_simp⟩, ⟨by go_simp, by go_simp, by go_simp, by go_simp, by go_simp, by go_simp, by go_simp, by go_simp⟩, .inr (.inl ⟨rfl, by go_simp, by go_simp, by go_simp, by go_simp, by go_simp, by go_simp, by go_simp, by go_simp⟩)⟩, by first | omega | (simp [intOf] <;> omega)⟩
      · go_wp2
        refine ⟨⟨by (repeat (first | exact HG.out | refine gb_drew ?_ | refine gb_setCell ?_ (.inr (by simp <;> omega)) _)), by go_simp, ⟨by go_simp, by go_simp, by go_simp, by go_simp, by go_simp, by go_simp, by go_simp, by go_simp⟩, ⟨by go_simp, by go_simp, by go_simp, by go_simp, by go_simp, by go_simp, by go_simp, by go_simp⟩, ⟨by go_simp, by go_simp, by go_simp, by go_simp, by go_simp, by go_simp, by go_simp, by go_simp⟩, .inr (.inr (.inl ⟨rfl, by go_simp, by go_simp, by go_simp, by go_simp, by go_simp, by go_simp, by go_simp, by go_simp⟩))⟩, by first | omega | (simp [intOf] <;> omega)⟩
      · go_wp2
        refine ⟨⟨by (repeat (first | exact HG.out | refine gb_drew ?_ | refine gb_setCell ?_ (.inr (by simp <;> omega)) _)), by go_simp, ⟨by go_simp, by go_simp, by go_simp, by go_simp, by go_simp, by go_simp, by go_simp, by go_simp⟩, ⟨by go_simp, by go_simp, by go_simp, by go_simp, by go_simp, by go_simp, by go_simp, by go_simp⟩, ⟨by go_simp, by go_simp, by go_simp, by go_simp, by go_simp, by go_simp, by go_simp, by go_simp⟩, .inr (.inr (.inr (.inl ⟨rfl, by go_simp, by go_simp, by go_simp, by go_simp, by go_simp, by go_simp, by go_simp, by go_simp⟩)))⟩, by first | omega | (simp [intOf] <;> omega)⟩
      · go_wp2
        refine ⟨⟨by (repeat (first | exact HG.out | refine gb_drew ?_ | refine gb_setCell ?_ (.inr (by simp <;> omega)) _)), by go_simp, ⟨by go_simp, by go_simp, by go_simp, by go_simp, by go_simp, by go_simp, by go_simp, by go_simp⟩, ⟨by go_simp, by go_simp, by go_simp, by go_simp, by go_simp, by go_simp, by go_simp, by go_simp⟩, ⟨by go_simp, by go_simp, by go_simp, by go_simp, by go_simp, by go_simp, by go_simp, by go_simp⟩, .inr (.inr (.inr (.inr ⟨rfl, by go_simp, by go_simp, by go_simp, by go_simp, by go_simp, by go_simp, by go_simp, by go_simp⟩)))⟩, by first | omega | (simp [intOf] <;> omega)⟩
      · go_wp2
        exact bodyPost_ret (v := v4i (a0 * 65535) (a1 * 65535) (a2 * 65535) (a3 * 65535)) (by simp [results, Tryz.results33, go_sem, z0, z1, z2, z3]) rfl ⟨rfl, by (repeat (first | exact HG.out | refine gb_setCell ?_ (.inr (by simp <;> omega)) _))⟩
end Go.Proofs.YtgjpohmjkhgpfaaGreat
