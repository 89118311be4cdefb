/- image/draw: DrawMask's general loop, pixel by pixel through the images' interfaces, cut into declarations: what holds at each round. No condition. -/
import Derived.Test.YtgjpohmjkhgpfaaGreatHSC
import Derived.Test.YtgjpohmjkhgpfaaGreatHY4
set_option linter.unusedSimpArgs false
set_option linter.unusedVariables false
namespace Go.Proofs.YtgjpohmjkhgpfaaGreat
open Go.RowKit

theorem Src.congr0 {w : World} {b pb h wd k : Nat} {x0 y0 : Int} {S S' : Nat → Nat → Nat → Int} {t : TypeId} (H : Src w b pb h wd x0 y0 S k t) (hk : k = 0 ∨ k = 2 ∨ k = 4) (e : ∀ r c ch, r < h → c < wd → ch < sz k → S r c ch = S' r c ch) (hB : ∀ r c, By (S' r c)) :
    Src w b pb h wd x0 y0 S' k t := by
  cases H <;> (first | omega | skip)
  case k0 H =>
    obtain ⟨n, cap, st, hb, hp, q1, q2, q3, q4, q5, q6, q7, q8, q9, q10, q11, _⟩ := H
    exact .k0 ⟨n, cap, st, hb, hp.congr e, q1, q2, q3, q4, q5, q6, q7, q8, q9, q10, q11, hB⟩
  case k2 H =>
    obtain ⟨n, cap, st, hb, hp, q1, q2, q3, q4, q5, q6, q7, q8, q9, q10, q11, _⟩ := H
    exact .k2 ⟨n, cap, st, hb, hp.congr e, q1, q2, q3, q4, q5, q6, q7, q8, q9, q10, q11, hB⟩
  case k4 H =>
    obtain ⟨n, cap, st, hb, hp, q1, q2, q3, q4, q5, q6, q7, q8, q9, q10, q11, _⟩ := H
    exact .k4 ⟨n, cap, st, hb, hp.congr e, q1, q2, q3, q4, q5, q6, q7, q8, q9, q10, q11, hB⟩
theorem transparent_c (w : World) : Calls Tryz.prog 73 #[] w fun e w' => e = .returned (.agg #[.int .u16 0]) ∧ w.grownBy w' none := by
  go_enter Tryz.func73, Tryz.ntmps73
  go_wp2
  exact bodyPost_ret (v := .agg #[.int .u16 0]) (by simp [results, Tryz.results73, go_sem]) rfl ⟨rfl, gb_alloc (gb_refl _ _) _⟩

@[go_sem] theorem nil_plain (v : Value) (w : World) : (nilAhead 326 83 (.agg #[v]) "Set").run Tryz.prog w = .ok (some false) w := by kernel_rfl
/-- the block that holds the computed color -/
def OutC (w : World) (bo : Nat) : Prop := (∃ v : Nat → Int, w.cell? ⟨bo, 0, none⟩ = some (.int .u16 (v 0)) ∧ w.cell? ⟨bo, 1, none⟩ = some (.int .u16 (v 1)) ∧ w.cell? ⟨bo, 2, none⟩ = some (.int .u16 (v 2)) ∧ w.cell? ⟨bo, 3, none⟩ = some (.int .u16 (v 3))) ∧ ∀ k, w.frozen? ⟨bo, k, none⟩ = false
theorem OutC.lt {w : World} {bo : Nat} (H : OutC w bo) : bo < w.heap.size := by
  obtain ⟨⟨v, h0, -⟩, -⟩ := H
  exact World.block_lt_of_cell? w _ h0
theorem OutC.kept {w w' : World} {bo pd : Nat} (H : OutC w bo) (hg : w.grownBy w' (some pd)) (hne : bo ≠ pd) : OutC w' bo := by
  have hl := H.lt
  obtain ⟨⟨v, h0, h1, h2, h3⟩, hf⟩ := H
  exact ⟨⟨v, (gb_cell hg hl hne).trans h0, (gb_cell hg hl hne).trans h1, (gb_cell hg hl hne).trans h2, (gb_cell hg hl hne).trans h3⟩, fun k => (World.frozen?_of_block (a := ⟨bo, k, none⟩) (gb_block (b := bo) hg hl hne)).trans (hf k)⟩
theorem OutC.kept0 {w w' : World} {bo : Nat} (H : OutC w bo) (hg : w.grownBy w' none) : OutC w' bo := by
  have hl := H.lt
  obtain ⟨⟨v, h0, h1, h2, h3⟩, hf⟩ := H
  exact ⟨⟨v, (gb_cell0 hg hl).trans h0, (gb_cell0 hg hl).trans h1, (gb_cell0 hg hl).trans h2, (gb_cell0 hg hl).trans h3⟩, fun k => (gb_free0 hg (p := ⟨bo, k, none⟩) hl).trans (hf k)⟩

noncomputable def outerS : Code := ((loopsOf ((Tryz.f42).body.getD .skip))[6]?).getD .skip
noncomputable def innerS : Code := ((loopsOf ((Tryz.f42).body.getD .skip))[7]?).getD .skip

/-- the slots that stay -/
def SlS (O : Nat) (td ts tm : TypeId) (bd bs bm br bp bq bo n tt : Nat) (b0 b1 : Int) (c : Nat → Value) : Prop :=
  c 6 = .int .i64 (O : Int) ∧ c 0 = .iface 83 (vPl td bd) ∧ c 2 = .iface ts (.pointer (some ⟨bs, 0, none⟩)) ∧ c 4 = .iface tm (.pointer (some ⟨bm, 0, none⟩)) ∧
  c 62 = .int .i64 b0 ∧ c 63 = .int .i64 (b0 + (n : Int)) ∧ c 64 = .int .i64 1 ∧ c 66 = .int .i64 (b1 + (tt : Int)) ∧ c 67 = .int .i64 1 ∧
  c 8 = .pointer (some ⟨br, 0, none⟩) ∧ c 10 = .pointer (some ⟨bp, 0, none⟩) ∧ c 12 = .pointer (some ⟨bq, 0, none⟩) ∧ c 93 = .pointer (some ⟨bo, 0, none⟩)
/-- what is known ahead of the loop -/
structure CxS (O : Nat) (w0 : World) (td ts tm : TypeId) (bd pd dh dw bs ps sh sw bm pm mh mw kd ks km rx ry xe ye sx sy mx my br bp bq bo n tt : Nat) (dx0 dy0 sx0 sy0 mx0 my0 b0 b1 p0 p1 q0 q1 : Int) (D S M F : Nat → Nat → Nat → Int) : Prop where
  HD : Src w0 bd pd dh dw dx0 dy0 D kd td
  HK : kd = 0 ∨ kd = 2 ∨ kd = 4
  HS : Src w0 bs ps sh sw sx0 sy0 S ks ts
  HM : Src w0 bm pm mh mw mx0 my0 M km tm
  Hpm : ∀ r c, Pm ks (S r c)
  n1 : bs ≠ pd
  n2 : ps ≠ pd
  n4 : bm ≠ pd
  n5 : pm ≠ pd
  m1 : br ≠ pd
  m2 : bp ≠ pd
  m3 : bq ≠ pd
  ho : w0.heap.size ≤ bo
  o1 : bo ≠ pd
  o2 : bo ≠ bd
  HE : b0 - dx0 = rx ∧ b1 - dy0 = ry ∧ p0 - sx0 = sx ∧ p1 - sy0 = sy ∧ q0 - mx0 = mx ∧ q1 - my0 = my
  HL : rx + n = xe ∧ ry + tt = ye ∧ xe ≤ dw ∧ ye ≤ dh ∧ sx + n ≤ sw ∧ sy + tt ≤ sh ∧ mx + n ≤ mw ∧ my + tt ≤ mh
  HB : -4000 ≤ b0 ∧ b0 ≤ 4000 ∧ -4000 ≤ b1 ∧ b1 ≤ 4000 ∧ n ≤ 128 ∧ tt ≤ 128 ∧ -9000000000 ≤ p0 ∧ p0 ≤ 9000000000 ∧ -9000000000 ≤ p1 ∧ p1 ≤ 9000000000 ∧ -9000000000 ≤ q0 ∧ q0 ≤ 9000000000 ∧ -9000000000 ≤ q1 ∧ q1 ≤ 9000000000
  HF : F = fun r c => cutN (sz kd) (pxM kd ks km O (D r c) (S (sy + (r - ry)) (sx + (c - rx))) (M (my + (r - ry)) (mx + (c - rx))))
  HC : Cp w0 br bp bq b0 b1 (b0 + (n : Int)) (b1 + (tt : Int)) p0 p1 q0 q1
section
variable (O : Nat) (w0 : World) (td ts tm : TypeId) (bd pd dh dw bs bm kd rx ry xe ye br bp bq bo n tt : Nat) (dx0 dy0 b0 b1 p0 p1 q0 q1 : Int) (D F : Nat → Nat → Nat → Int)
/-- ahead of a pixel -/
def InS (j k : Nat) (a : Act) (w' : World) : Prop := ∃ c : Nat → Value, a = ⟨FRl c, []⟩ ∧ SlS O td ts tm bd bs bm br bp bq bo n tt b0 b1 c ∧ c 96 = .int .i64 (b1 + (j : Int)) ∧ c 94 = .int .i64 (p1 + (j : Int)) ∧ c 95 = .int .i64 (q1 + (j : Int)) ∧
  c 99 = .int .i64 (b0 + (k : Int)) ∧ c 97 = .int .i64 (p0 + (k : Int)) ∧ c 98 = .int .i64 (q0 + (k : Int)) ∧ w0.grownBy w' (some pd) ∧ Src w' bd pd dh dw dx0 dy0 (pt (fw rx xe ry j k) F D) kd td ∧ OutC w' bo
/-- ahead of a row -/
def OutS (j : Nat) (a : Act) (w' : World) : Prop := ∃ c : Nat → Value, a = ⟨FRl c, []⟩ ∧ SlS O td ts tm bd bs bm br bp bq bo n tt b0 b1 c ∧ c 96 = .int .i64 (b1 + (j : Int)) ∧ c 94 = .int .i64 (p1 + (j : Int)) ∧ c 95 = .int .i64 (q1 + (j : Int)) ∧
  w0.grownBy w' (some pd) ∧ Src w' bd pd dh dw dx0 dy0 (pt (fw rx xe ry j 0) F D) kd td ∧ OutC w' bo
end
end Go.Proofs.YtgjpohmjkhgpfaaGreat
