/- Colors through an interface, and what the three models make of them. The color's method answers as it is said to. -/
import Derived.Test.YtgjpohmjkhgpfaaGreatD15
set_option linter.unusedSimpArgs false
set_option linter.unusedVariables false
namespace Go.Proofs.YtgjpohmjkhgpfaaGreat
open Go.RowKit

/-- an assertion that does not hold, and what it yields -/
def NoT (T : TypeId) (z : Value) (tc : TypeId) (cv : Value) : Prop := ∀ w : World, (Instr.typeAssert (.iface tc cv) 136 T true).run Tryz.prog w = .ok (.tuple #[z, .bool false]) w
abbrev u84 (a b c d : Int) : Value := .agg #[.int .u8 a, .int .u8 b, .int .u8 c, .int .u8 d]
abbrev u164 (a b c d : Int) : Value := .agg #[.int .u16 a, .int .u16 b, .int .u16 c, .int .u16 d]
theorem no_RGBA_NRGBA (v : Value) : NoT 174 (.agg #[.int .u8 0, .int .u8 0, .int .u8 0, .int .u8 0]) 176 v := fun _ => by kernel_rfl
theorem no_RGBA_Alpha (v : Value) : NoT 174 (.agg #[.int .u8 0, .int .u8 0, .int .u8 0, .int .u8 0]) 208 v := fun _ => by kernel_rfl
theorem no_RGBA_Gray (v : Value) : NoT 174 (.agg #[.int .u8 0, .int .u8 0, .int .u8 0, .int .u8 0]) 212 v := fun _ => by kernel_rfl
theorem no_RGBA_RGBA64 (v : Value) : NoT 174 (.agg #[.int .u8 0, .int .u8 0, .int .u8 0, .int .u8 0]) 103 v := fun _ => by kernel_rfl
theorem no_RGBA_CMYK (v : Value) : NoT 174 (.agg #[.int .u8 0, .int .u8 0, .int .u8 0, .int .u8 0]) 217 v := fun _ => by kernel_rfl
theorem no_RGBA_Alpha16 (v : Value) : NoT 174 (.agg #[.int .u8 0, .int .u8 0, .int .u8 0, .int .u8 0]) 154 v := fun _ => by kernel_rfl
theorem no_RGBA_pRGBA64 (v : Value) : NoT 174 (.agg #[.int .u8 0, .int .u8 0, .int .u8 0, .int .u8 0]) 156 v := fun _ => by kernel_rfl
@[go_sem] theorem own_RGBA (v0 v1 v2 v3 : Value) (w : World) : (Instr.typeAssert (.iface 174 (.agg #[v0, v1, v2, v3])) 136 174 true).run Tryz.prog w = .ok (.tuple #[.agg #[v0, v1, v2, v3], .bool true]) w := by kernel_rfl
@[go_sem] theorem ownf_RGBA (v0 v1 v2 v3 : Value) (w : World) : (Instr.typeAssert (.iface 174 (.agg #[v0, v1, v2, v3])) 136 174 false).run Tryz.prog w = .ok (.agg #[v0, v1, v2, v3]) w := by kernel_rfl
theorem no_Alpha_RGBA (v : Value) : NoT 208 (.agg #[.int .u8 0]) 174 v := fun _ => by kernel_rfl
theorem no_Alpha_NRGBA (v : Value) : NoT 208 (.agg #[.int .u8 0]) 176 v := fun _ => by kernel_rfl
theorem no_Alpha_Gray (v : Value) : NoT 208 (.agg #[.int .u8 0]) 212 v := fun _ => by kernel_rfl
theorem no_Alpha_RGBA64 (v : Value) : NoT 208 (.agg #[.int .u8 0]) 103 v := fun _ => by kernel_rfl
theorem no_Alpha_CMYK (v : Value) : NoT 208 (.agg #[.int .u8 0]) 217 v := fun _ => by kernel_rfl
theorem no_Alpha_Alpha16 (v : Value) : NoT 208 (.agg #[.int .u8 0]) 154 v := fun _ => by kernel_rfl
theorem no_Alpha_pRGBA64 (v : Value) : NoT 208 (.agg #[.int .u8 0]) 156 v := fun _ => by kernel_rfl
@[go_sem] theorem own_Alpha (v0 : Value) (w : World) : (Instr.typeAssert (.iface 208 (.agg #[v0])) 136 208 true).run Tryz.prog w = .ok (.tuple #[.agg #[v0], .bool true]) w := by kernel_rfl
@[go_sem] theorem ownf_Alpha (v0 : Value) (w : World) : (Instr.typeAssert (.iface 208 (.agg #[v0])) 136 208 false).run Tryz.prog w = .ok (.agg #[v0]) w := by kernel_rfl
theorem no_RGBA64_RGBA (v : Value) : NoT 103 (.agg #[.int .u16 0, .int .u16 0, .int .u16 0, .int .u16 0]) 174 v := fun _ => by kernel_rfl
theorem no_RGBA64_NRGBA (v : Value) : NoT 103 (.agg #[.int .u16 0, .int .u16 0, .int .u16 0, .int .u16 0]) 176 v := fun _ => by kernel_rfl
theorem no_RGBA64_Alpha (v : Value) : NoT 103 (.agg #[.int .u16 0, .int .u16 0, .int .u16 0, .int .u16 0]) 208 v := fun _ => by kernel_rfl
theorem no_RGBA64_Gray (v : Value) : NoT 103 (.agg #[.int .u16 0, .int .u16 0, .int .u16 0, .int .u16 0]) 212 v := fun _ => by kernel_rfl
theorem no_RGBA64_CMYK (v : Value) : NoT 103 (.agg #[.int .u16 0, .int .u16 0, .int .u16 0, .int .u16 0]) 217 v := fun _ => by kernel_rfl
theorem no_RGBA64_Alpha16 (v : Value) : NoT 103 (.agg #[.int .u16 0, .int .u16 0, .int .u16 0, .int .u16 0]) 154 v := fun _ => by kernel_rfl
theorem no_RGBA64_pRGBA64 (v : Value) : NoT 103 (.agg #[.int .u16 0, .int .u16 0, .int .u16 0, .int .u16 0]) 156 v := fun _ => by kernel_rfl
@[go_sem] theorem own_RGBA64 (v0 v1 v2 v3 : Value) (w : World) : (Instr.typeAssert (.iface 103 (.agg #[v0, v1, v2, v3])) 136 103 true).run Tryz.prog w = .ok (.tuple #[.agg #[v0, v1, v2, v3], .bool true]) w := by kernel_rfl
@[go_sem] theorem ownf_RGBA64 (v0 v1 v2 v3 : Value) (w : World) : (Instr.typeAssert (.iface 103 (.agg #[v0, v1, v2, v3])) 136 103 false).run Tryz.prog w = .ok (.agg #[v0, v1, v2, v3]) w := by kernel_rfl

/-- a color that an interface holds, in whatever world that has grown out of w: its method's answer, and what the models' types answer -/
structure ColW (w : World) (v : Nat → Int) (tc : TypeId) (cv : Value) : Prop where
  rg : ∀ i, i < 4 → 0 ≤ v i ∧ v i ≤ 65535
  m : ∃ g rv, Fn g ∧ (∀ w', w.grownBy w' none → (method 326 tc cv "RGBA").run Tryz.prog w' = .ok (g, rv) w') ∧ ∀ w' : World, Calls Tryz.prog g #[rv] w' fun e w'' => e = .returned (v4 v) ∧ w'.grownBy w'' none
  t0 : NoT 174 (.agg #[.int .u8 0, .int .u8 0, .int .u8 0, .int .u8 0]) tc cv ∨ (tc = 174 ∧ cv = .agg #[.int .u8 (v 0 / 256), .int .u8 (v 1 / 256), .int .u8 (v 2 / 256), .int .u8 (v 3 / 256)])
  t2 : NoT 208 (.agg #[.int .u8 0]) tc cv ∨ (tc = 208 ∧ cv = .agg #[.int .u8 (v 3 / 256)])
  t4 : NoT 103 (.agg #[.int .u16 0, .int .u16 0, .int .u16 0, .int .u16 0]) tc cv ∨ (tc = 103 ∧ cv = .agg #[.int .u16 (v 0), .int .u16 (v 1), .int .u16 (v 2), .int .u16 (v 3)])
theorem ColW.kept {w w' : World} {v : Nat → Int} {tc : TypeId} {cv : Value} (H : ColW w v tc cv) (hg : w.grownBy w' none) : ColW w' v tc cv := by
  obtain ⟨g, rv, hF, hM, hG⟩ := H.m
  exact ⟨H.rg, ⟨g, rv, hF, fun w'' h => hM w'' (gb_trans hg h), hG⟩, H.t0, H.t2, H.t4⟩

set_option maxHeartbeats 4000000 in
theorem cv0_c {v : Nat → Int} {tc : TypeId} {cv : Value} (w : World) (H : ColW w v tc cv) :
    Calls Tryz.prog 134 #[.iface tc cv] w fun e w' => e = .returned (.iface 174 (.agg #[.int .u8 (v 0 / 256), .int .u8 (v 1 / 256), .int .u8 (v 2 / 256), .int .u8 (v 3 / 256)])) ∧ w.grownBy w' none := by
  obtain ⟨g, rv, hF, hM, hG⟩ := H.m
  have h0 := H.rg 0 (by omega); have h1 := H.rg 1 (by omega); have h2 := H.rg 2 (by omega); have h3 := H.rg 3 (by omega)
  have q0 : IntKind.u8.wrap (v 0 / 256) = v 0 / 256 := by rw [IntKind.wrap_u8]; omega
  have q1 : IntKind.u8.wrap (v 1 / 256) = v 1 / 256 := by rw [IntKind.wrap_u8]; omega
  have q2 : IntKind.u8.wrap (v 2 / 256) = v 2 / 256 := by rw [IntKind.wrap_u8]; omega
  have q3 : IntKind.u8.wrap (v 3 / 256) = v 3 / 256 := by rw [IntKind.wrap_u8]; omega
  have HG := hid hG
  clear hG
  have hg0 := hid (gb_alloc (gb_refl w none) (.cells #[.int .u8 0, .int .u8 0, .int .u8 0, .int .u8 0] 174))
  rcases H.t0 with hT | ⟨rfl, rfl⟩
  · unfold NoT at hT
    unfold Fn at hF
    have hM' := hM (w.alloc (.cells #[.int .u8 0, .int .u8 0, .int .u8 0, .int .u8 0] 174)) hg0.out
    clear hM H
    go_enter Tryz.func134, Tryz.ntmps134
    go_wp2_with fail
    refine (HG.out _).mono ?_
    rintro e w1 ⟨rfl, hg1⟩
    have HG1 := hid (gb_trans hg0.out hg1)
    clear hg1
    go_wp2_with fail
    go_ret
    exact ⟨rfl, HG1.out⟩
  · clear hM H
    go_enter Tryz.func134, Tryz.ntmps134
    go_wp2_with fail
    go_ret
    exact ⟨rfl, gb_alloc (gb_refl _ _) _⟩
theorem mod0_c (w : World) : Calls Tryz.prog 132 #[] w fun e w' => e = .returned (.iface 202 (.pointer (some ⟨w.heap.size, 0, none⟩))) ∧ w.grownBy w' none ∧ w'.cell? ⟨w.heap.size, 0, none⟩ = some (.func (.func 134) #[] #[]) := by
  go_enter Tryz.func132, Tryz.ntmps132
  go_wp2
  go_ret
  exact ⟨rfl, gb_alloc (gb_refl _ _) _, by go_simp⟩
theorem conv0_c {v : Nat → Int} {tc : TypeId} {cv : Value} (b : Nat) (w : World) (hc : w.cell? ⟨b, 0, none⟩ = some (.func (.func 134) #[] #[])) (H : ColW w v tc cv) :
    Calls Tryz.prog 221 #[.pointer (some ⟨b, 0, none⟩), .iface tc cv] w fun e w' => e = .returned (.iface 174 (.agg #[.int .u8 (v 0 / 256), .int .u8 (v 1 / 256), .int .u8 (v 2 / 256), .int .u8 (v 3 / 256)])) ∧ w.grownBy w' none := by
  have HH := hid H
  clear H
  go_enter Tryz.func221, Tryz.ntmps221
  go_wp2_with fail
  refine (cv0_c _ HH.out).mono ?_
  rintro e w1 ⟨rfl, hg⟩
  go_wp2_with fail
  go_ret
  exact ⟨rfl, hg⟩

set_option maxHeartbeats 4000000 in
theorem cv2_c {v : Nat → Int} {tc : TypeId} {cv : Value} (w : World) (H : ColW w v tc cv) :
    Calls Tryz.prog 153 #[.iface tc cv] w fun e w' => e = .returned (.iface 208 (.agg #[.int .u8 (v 3 / 256)])) ∧ w.grownBy w' none := by
  obtain ⟨g, rv, hF, hM, hG⟩ := H.m
  have h0 := H.rg 0 (by omega); have h1 := H.rg 1 (by omega); have h2 := H.rg 2 (by omega); have h3 := H.rg 3 (by omega)
  have q3 : IntKind.u8.wrap (v 3 / 256) = v 3 / 256 := by rw [IntKind.wrap_u8]; omega
  have HG := hid hG
  clear hG
  have hg0 := hid (gb_alloc (gb_refl w none) (.cells #[.int .u8 0] 208))
  rcases H.t2 with hT | ⟨rfl, rfl⟩
  · unfold NoT at hT
    unfold Fn at hF
    have hM' := hM (w.alloc (.cells #[.int .u8 0] 208)) hg0.out
    clear hM H
    go_enter Tryz.func153, Tryz.ntmps153
    go_wp2_with fail
    refine (HG.out _).mono ?_
    rintro e w1 ⟨rfl, hg1⟩
    have HG1 := hid (gb_trans hg0.out hg1)
    clear hg1
    go_wp2_with fail
    go_ret
    exact ⟨rfl, HG1.out⟩
  · clear hM H
    go_enter Tryz.func153, Tryz.ntmps153
    go_wp2_with fail
    go_ret
    exact ⟨rfl, gb_alloc (gb_refl _ _) _⟩
theorem mod2_c (w : World) : Calls Tryz.prog 152 #[] w fun e w' => e = .returned (.iface 202 (.pointer (some ⟨w.heap.size, 0, none⟩))) ∧ w.grownBy w' none ∧ w'.cell? ⟨w.heap.size, 0, none⟩ = some (.func (.func 153) #[] #[]) := by
  go_enter Tryz.func152, Tryz.ntmps152
  go_wp2
  go_ret
  exact ⟨rfl, gb_alloc (gb_refl _ _) _, by go_simp⟩
theorem conv2_c {v : Nat → Int} {tc : TypeId} {cv : Value} (b : Nat) (w : World) (hc : w.cell? ⟨b, 0, none⟩ = some (.func (.func 153) #[] #[])) (H : ColW w v tc cv) :
    Calls Tryz.prog 221 #[.pointer (some ⟨b, 0, none⟩), .iface tc cv] w fun e w' => e = .returned (.iface 208 (.agg #[.int .u8 (v 3 / 256)])) ∧ w.grownBy w' none := by
  have HH := hid H
  clear H
  go_enter Tryz.func221, Tryz.ntmps221
  go_wp2_with fail
  refine (cv2_c _ HH.out).mono ?_
  rintro e w1 ⟨rfl, hg⟩
  go_wp2_with fail
  go_ret
  exact ⟨rfl, hg⟩

set_option maxHeartbeats 4000000 in
theorem cv4_c {v : Nat → Int} {tc : TypeId} {cv : Value} (w : World) (H : ColW w v tc cv) :
    Calls Tryz.prog 173 #[.iface tc cv] w fun e w' => e = .returned (.iface 103 (.agg #[.int .u16 (v 0), .int .u16 (v 1), .int .u16 (v 2), .int .u16 (v 3)])) ∧ w.grownBy w' none := by
  obtain ⟨g, rv, hF, hM, hG⟩ := H.m
  have h0 := H.rg 0 (by omega); have h1 := H.rg 1 (by omega); have h2 := H.rg 2 (by omega); have h3 := H.rg 3 (by omega)
  have q0 : IntKind.u16.wrap (v 0) = v 0 := by rw [IntKind.wrap_u16]; omega
  have q1 : IntKind.u16.wrap (v 1) = v 1 := by rw [IntKind.wrap_u16]; omega
  have q2 : IntKind.u16.wrap (v 2) = v 2 := by rw [IntKind.wrap_u16]; omega
  have q3 : IntKind.u16.wrap (v 3) = v 3 := by rw [IntKind.wrap_u16]; omega
  have HG := hid hG
  clear hG
  have hg0 := hid (gb_alloc (gb_refl w none) (.cells #[.int .u16 0, .int .u16 0, .int .u16 0, .int .u16 0] 103))
  rcases H.t4 with hT | ⟨rfl, rfl⟩
  · unfold NoT at hT
    unfold Fn at hF
    have hM' := hM (w.alloc (.cells #[.int .u16 0, .int .u16 0, .int .u16 0, .int .u16 0] 103)) hg0.out
    clear hM H
    go_enter Tryz.func173, Tryz.ntmps173
    go_wp2_with fail
    refine (HG.out _).mono ?_
    rintro e w1 ⟨rfl, hg1⟩
    have HG1 := hid (gb_trans hg0.out hg1)
    clear hg1
    go_wp2_with fail
    go_ret
    exact ⟨rfl, HG1.out⟩
  · clear hM H
    go_enter Tryz.func173, Tryz.ntmps173
    go_wp2_with fail
    go_ret
    exact ⟨rfl, gb_alloc (gb_refl _ _) _⟩
theorem mod4_c (w : World) : Calls Tryz.prog 172 #[] w fun e w' => e = .returned (.iface 202 (.pointer (some ⟨w.heap.size, 0, none⟩))) ∧ w.grownBy w' none ∧ w'.cell? ⟨w.heap.size, 0, none⟩ = some (.func (.func 173) #[] #[]) := by
  go_enter Tryz.func172, Tryz.ntmps172
  go_wp2
  go_ret
  exact ⟨rfl, gb_alloc (gb_refl _ _) _, by go_simp⟩
theorem conv4_c {v : Nat → Int} {tc : TypeId} {cv : Value} (b : Nat) (w : World) (hc : w.cell? ⟨b, 0, none⟩ = some (.func (.func 173) #[] #[])) (H : ColW w v tc cv) :
    Calls Tryz.prog 221 #[.pointer (some ⟨b, 0, none⟩), .iface tc cv] w fun e w' => e = .returned (.iface 103 (.agg #[.int .u16 (v 0), .int .u16 (v 1), .int .u16 (v 2), .int .u16 (v 3)])) ∧ w.grownBy w' none := by
  have HH := hid H
  clear H
  go_enter Tryz.func221, Tryz.ntmps221
  go_wp2_with fail
  refine (cv4_c _ HH.out).mono ?_
  rintro e w1 ⟨rfl, hg⟩
  go_wp2_with fail
  go_ret
  exact ⟨rfl, hg⟩

theorem m_out {w : World} {b : Nat} {v0 v1 v2 v3 : Value} (h0 : w.cell? ⟨b, 0, none⟩ = some v0) (h1 : w.cell? ⟨b, 1, none⟩ = some v1) (h2 : w.cell? ⟨b, 2, none⟩ = some v2) (h3 : w.cell? ⟨b, 3, none⟩ = some v3) :
    (method 326 156 (.pointer (some ⟨b, 0, none⟩)) "RGBA").run Tryz.prog w = .ok (193, .agg #[v0, v1, v2, v3]) w := by
  have hl := run_loadCells_list (P := Tryz.prog) w ⟨b, 0, none⟩ [v0, v1, v2, v3] (fun j v hj => by
    have hj4 : j < 4 := by
      rcases Nat.lt_or_ge j 4 with h | h
      · exact h
      · rw [List.getElem?_eq_none (by simpa using h)] at hj; cases hj
    have : j = 0 ∨ j = 1 ∨ j = 2 ∨ j = 3 := by omega
    rcases this with rfl | rfl | rfl | rfl
    · injection hj with hj; subst hj; exact h0
    · injection hj with hj; subst hj; exact h1
    · injection hj with hj; subst hj; exact h2
    · injection hj with hj; subst hj; exact h3)
  have e : (method 326 156 (.pointer (some ⟨b, 0, none⟩)) "RGBA").run Tryz.prog w = ((loadCells ⟨b, 0, none⟩ 4) >>= fun c => (pure (193, Value.agg c) : Sem (FuncId × Value))).run Tryz.prog w := by kernel_rfl
  have hl' : (loadCells ⟨b, 0, none⟩ 4).run Tryz.prog w = .ok #[v0, v1, v2, v3] w := hl
  rw [e]
  simp [hl']
/-- a color of 16 bits behind a pointer -/
theorem ColW.out {w : World} {b : Nat} {v : Nat → Int} (hv : ∀ i, i < 4 → 0 ≤ v i ∧ v i ≤ 65535) (h0 : w.cell? ⟨b, 0, none⟩ = some (.int .u16 (v 0))) (h1 : w.cell? ⟨b, 1, none⟩ = some (.int .u16 (v 1))) (h2 : w.cell? ⟨b, 2, none⟩ = some (.int .u16 (v 2))) (h3 : w.cell? ⟨b, 3, none⟩ = some (.int .u16 (v 3))) :
    ColW w v 156 (.pointer (some ⟨b, 0, none⟩)) := by
  have hl : b < w.heap.size := World.block_lt_of_cell? w _ h0
  refine ⟨hv, ⟨193, c64 v, fun _ _ => by kernel_rfl, fun w' hg => m_out ((gb_cell0 hg hl).trans h0) ((gb_cell0 hg hl).trans h1) ((gb_cell0 hg hl).trans h2) ((gb_cell0 hg hl).trans h3), fun w' => rgba64_RGBA_c (fun i => if i < 4 then v i else 0) w' (fun i => by split; exact hv i ‹_›; exact ⟨by decide, by decide⟩)⟩, .inl (no_RGBA_pRGBA64 _), .inl (no_Alpha_pRGBA64 _), .inl (no_RGBA64_pRGBA64 _)⟩
theorem ColW.transparent (w : World) : ColW w (fun _ => 0) 154 (.agg #[.int .u16 0]) :=
  ⟨fun _ _ => ⟨by decide, by decide⟩, ⟨218, _, fun _ _ => by kernel_rfl, fun w' _ => m_cAlpha16 _ w', fun w' => alpha16_RGBA_c 0 w' ⟨by decide, by decide⟩⟩, .inl (no_RGBA_Alpha16 _), .inl (no_Alpha_Alpha16 _), .inl (no_RGBA64_Alpha16 _)⟩

section
variable {w : World} {b pb h wd k : Nat} {x0 y0 : Int} {S : Nat → Nat → Nat → Int} {t : TypeId}
theorem by257 {x : Int} (h : 0 ≤ x ∧ x ≤ 255) : x * 257 / 256 = x := by omega
theorem col_at {v : Nat → Int} {tc : TypeId} {cv : Value} (h : Col v tc cv) (u : World) (rg : ∀ i, i < 4 → 0 ≤ v i ∧ v i ≤ 65535)
    (t0 : NoT 174 (.agg #[.int .u8 0, .int .u8 0, .int .u8 0, .int .u8 0]) tc cv ∨ (tc = 174 ∧ cv = .agg #[.int .u8 (v 0 / 256), .int .u8 (v 1 / 256), .int .u8 (v 2 / 256), .int .u8 (v 3 / 256)]))
    (t2 : NoT 208 (.agg #[.int .u8 0]) tc cv ∨ (tc = 208 ∧ cv = .agg #[.int .u8 (v 3 / 256)]))
    (t4 : NoT 103 (.agg #[.int .u16 0, .int .u16 0, .int .u16 0, .int .u16 0]) tc cv ∨ (tc = 103 ∧ cv = .agg #[.int .u16 (v 0), .int .u16 (v 1), .int .u16 (v 2), .int .u16 (v 3)])) : ColW u v tc cv := by
  obtain ⟨g, hF, hM, hG⟩ := h
  exact ⟨rg, ⟨g, cv, hF, fun w' _ => hM w', hG⟩, t0, t2, t4⟩
/-- the color of a pixel, through an interface -/
theorem Src.matx (H : Src w b pb h wd x0 y0 S k t) : ∃ f, Fn f ∧ (∀ w', (method 326 t (.pointer (some ⟨b, 0, none⟩)) "At").run Tryz.prog w' = .ok (f, .pointer (some ⟨b, 0, none⟩)) w') ∧
    ∀ (w' : World) (x y : Int) (r c : Nat) (P : Nat → Nat → Nat → Int), Src w' b pb h wd x0 y0 P k t → x - x0 = c → y - y0 = r → c < wd → r < h →
      Calls Tryz.prog f #[.pointer (some ⟨b, 0, none⟩), .int .i64 x, .int .i64 y] w' fun e w'' => (∃ tc cv, e = .returned (.iface tc cv) ∧ Col (cl k (P r c)) tc cv ∧ ∀ u, ColW u (cl k (P r c)) tc cv) ∧ w'.grownBy w'' none := by
  cases H
  case k6 s hb hs hc hl e1 e2 e3 e4 e5 =>
    refine ⟨187, fun _ _ => by kernel_rfl, fun w' => m_Uniform_At _ w', fun w' x y r c P H' _ _ _ _ => ?_⟩
    cases H'
    case k6 s' hb' hs' hc' hl' _ _ _ _ _ =>
      refine (At_Uniform (cl 6 s') b x y w' hc').mono ?_
      rintro e w2 ⟨rfl, hg⟩
      rw [hs']
      have hC : Col (cl 6 s') 103 (c64 (cl 6 s')) := ⟨193, fun _ _ => by kernel_rfl, fun w' => m_cRGBA64 _ _ _ _ w', fun w' => rgba64_RGBA_c (cl 6 s') w' (fun i => cl_range hb' i)⟩
      exact ⟨⟨_, _, rfl, hC, fun u => col_at hC u (fun i _ => cl_range hb' i) (.inl (no_RGBA_RGBA64 _)) (.inl (no_Alpha_RGBA64 _)) (.inr ⟨rfl, rfl⟩)⟩, hg⟩
  case k0 H =>
    refine ⟨125, fun _ _ => by kernel_rfl, fun w' => m_RGBA_At _ w', fun w' x y r c P H' g1 g2 g3 g4 => ?_⟩
    have HB := H'.by
    cases H'
    case k0 H' =>
      refine (At_RGBA w' H' g1 g2 g3 g4).mono ?_
      rintro e w2 ⟨rfl, hg⟩
      have hC : Col (cl 0 (P r c)) 174 (b4 (P r c)) := ⟨86, fun _ _ => by kernel_rfl, fun w' => m_cRGBA _ _ _ _  w', fun w' => rgba_RGBA_c (P r c) w' (HB r c)⟩
      exact ⟨⟨_, _, rfl, hC, fun u => col_at hC u (fun i _ => cl_range (HB r c) i) (.inr ⟨rfl, by show _ = Value.agg #[.int .u8 (P r c 0 * 257 / 256), .int .u8 (P r c 1 * 257 / 256), .int .u8 (P r c 2 * 257 / 256), .int .u8 (P r c 3 * 257 / 256)]; rw [by257 (HB r c 0), by257 (HB r c 1), by257 (HB r c 2), by257 (HB r c 3)]⟩) (.inl (no_Alpha_RGBA _)) (.inl (no_RGBA64_RGBA _))⟩, hg⟩
  case k1 H =>
    refine ⟨135, fun _ _ => by kernel_rfl, fun w' => m_NRGBA_At _ w', fun w' x y r c P H' g1 g2 g3 g4 => ?_⟩
    have HB := H'.by
    cases H'
    case k1 H' =>
      refine (At_NRGBA w' H' g1 g2 g3 g4).mono ?_
      rintro e w2 ⟨rfl, hg⟩
      have hC : Col (cl 1 (P r c)) 176 (b4 (P r c)) := ⟨89, fun _ _ => by kernel_rfl, fun w' => m_cNRGBA _ _ _ _  w', fun w' => nrgba_RGBA_c (P r c) w' (HB r c)⟩
      exact ⟨⟨_, _, rfl, hC, fun u => col_at hC u (fun i _ => cl_range (HB r c) i) (.inl (no_RGBA_NRGBA _)) (.inl (no_Alpha_NRGBA _)) (.inl (no_RGBA64_NRGBA _))⟩, hg⟩
  case k2 H =>
    refine ⟨144, fun _ _ => by kernel_rfl, fun w' => m_Alpha_At _ w', fun w' x y r c P H' g1 g2 g3 g4 => ?_⟩
    have HB := H'.by
    cases H'
    case k2 H' =>
      refine (At_Alpha w' H' g1 g2 g3 g4).mono ?_
      rintro e w2 ⟨rfl, hg⟩
      have hC : Col (cl 2 (P r c)) 208 (.agg #[.int .u8 (P r c 0)]) := ⟨222, fun _ _ => by kernel_rfl, fun w' => m_cAlpha _ w', fun w' => alpha_RGBA_c (P r c) w' (HB r c)⟩
      exact ⟨⟨_, _, rfl, hC, fun u => col_at hC u (fun i _ => cl_range (HB r c) i) (.inl (no_RGBA_Alpha _)) (.inr ⟨rfl, by show _ = Value.agg #[.int .u8 (P r c 0 * 257 / 256)]; rw [by257 (HB r c 0)]⟩) (.inl (no_RGBA64_Alpha _))⟩, hg⟩
  case k3 H =>
    refine ⟨154, fun _ _ => by kernel_rfl, fun w' => m_Gray_At _ w', fun w' x y r c P H' g1 g2 g3 g4 => ?_⟩
    have HB := H'.by
    cases H'
    case k3 H' =>
      refine (At_Gray w' H' g1 g2 g3 g4).mono ?_
      rintro e w2 ⟨rfl, hg⟩
      have hC : Col (cl 3 (P r c)) 212 (.agg #[.int .u8 (P r c 0)]) := ⟨223, fun _ _ => by kernel_rfl, fun w' => m_cGray _ w', fun w' => gray_RGBA_c (P r c) w' (HB r c)⟩
      exact ⟨⟨_, _, rfl, hC, fun u => col_at hC u (fun i _ => cl_range (HB r c) i) (.inl (no_RGBA_Gray _)) (.inl (no_Alpha_Gray _)) (.inl (no_RGBA64_Gray _))⟩, hg⟩
  case k4 H =>
    refine ⟨164, fun _ _ => by kernel_rfl, fun w' => m_RGBA64_At _ w', fun w' x y r c P H' g1 g2 g3 g4 => ?_⟩
    have HB := H'.by
    cases H'
    case k4 H' =>
      refine (At_RGBA64 w' H' g1 g2 g3 g4).mono ?_
      rintro e w2 ⟨rfl, hg⟩
      have hC : Col (cl 4 (P r c)) 103 (c64 (cl 4 (P r c))) := ⟨193, fun _ _ => by kernel_rfl, fun w' => m_cRGBA64 _ _ _ _  w', fun w' => rgba64_RGBA_c (cl 4 (P r c)) w' (fun i => cl_range (HB r c) i)⟩
      exact ⟨⟨_, _, rfl, hC, fun u => col_at hC u (fun i _ => cl_range (HB r c) i) (.inl (no_RGBA_RGBA64 _)) (.inl (no_Alpha_RGBA64 _)) (.inr ⟨rfl, rfl⟩)⟩, hg⟩
  case k5 H =>
    refine ⟨174, fun _ _ => by kernel_rfl, fun w' => m_CMYK_At _ w', fun w' x y r c P H' g1 g2 g3 g4 => ?_⟩
    have HB := H'.by
    cases H'
    case k5 H' =>
      refine (At_CMYK w' H' g1 g2 g3 g4).mono ?_
      rintro e w2 ⟨rfl, hg⟩
      have hC : Col (cl 5 (P r c)) 217 (b4 (P r c)) := ⟨182, fun _ _ => by kernel_rfl, fun w' => m_cCMYK _ _ _ _  w', fun w' => cmyk_RGBA_c (P r c) w' (HB r c)⟩
      exact ⟨⟨_, _, rfl, hC, fun u => col_at hC u (fun i _ => cl_range (HB r c) i) (.inl (no_RGBA_CMYK _)) (.inl (no_Alpha_CMYK _)) (.inl (no_RGBA64_CMYK _))⟩, hg⟩
end
end Go.Proofs.YtgjpohmjkhgpfaaGreat
