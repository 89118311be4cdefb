/- An image that hides its kind: its bounds, its colors, a pixel set. The pixel lies in the image. -/
import Derived.Test.YtgjpohmjkhgpfaaGreatHSB0
import Derived.Test.YtgjpohmjkhgpfaaGreatHSB2
import Derived.Test.YtgjpohmjkhgpfaaGreatHSB4
import Derived.Test.YtgjpohmjkhgpfaaGreatD17
set_option linter.unusedSimpArgs false
set_option linter.unusedVariables false
namespace Go.Proofs.YtgjpohmjkhgpfaaGreat
open Go.RowKit

section
variable {w : World} {b pb h wd k : Nat} {x0 y0 : Int} {S : Nat → Nat → Nat → Int} {t : TypeId}
/-- the method's function that sets a pixel to an interface's color -/
theorem Src.msetc (H : Src w b pb h wd x0 y0 S k t) (hk : k = 0 ∨ k = 2 ∨ k = 4) : ∃ f, Fn f ∧ (∀ w', (method 326 t (.pointer (some ⟨b, 0, none⟩)) "Set").run Tryz.prog w' = .ok (f, .pointer (some ⟨b, 0, none⟩)) w') ∧
    ∀ (w' : World) (x y : Int) (r c : Nat) (v : Nat → Int) (tc : TypeId) (cv : Value) (F D : Nat → Nat → Nat → Int) (dn dn' : Nat → Nat → Prop), Src w' b pb h wd x0 y0 (pt dn F D) k t → x - x0 = c → y - y0 = r → c < wd → r < h →
      ColW w' v tc cv → F r c = cutN (sz k) (en k v) → (∀ r' c', dn' r' c' ↔ (dn r' c' ∨ (r' = r ∧ c' = c))) →
      Calls Tryz.prog f #[.pointer (some ⟨b, 0, none⟩), .int .i64 x, .int .i64 y, .iface tc cv] w' fun e w'' => e = .returned (.tuple #[]) ∧ w'.grownBy w'' (some pb) ∧ Src w'' b pb h wd x0 y0 (pt dn' F D) k t := by
  cases H <;> (first | omega | skip)
  case k0 H =>
    refine ⟨130, fun _ _ => by kernel_rfl, fun w' => m_RGBA_Set _ w', fun w' x y r c v tc cv F D dn dn' H' g1 g2 g3 g4 hv hF hd => ?_⟩
    cases H'
    case k0 H' => exact (set_RGBA w' H' g1 g2 g3 g4 hv hF hd).mono (fun e w'' ⟨h1, h2, h3⟩ => ⟨h1, h2, .k0 h3⟩)
  case k2 H =>
    refine ⟨149, fun _ _ => by kernel_rfl, fun w' => m_Alpha_Set _ w', fun w' x y r c v tc cv F D dn dn' H' g1 g2 g3 g4 hv hF hd => ?_⟩
    cases H'
    case k2 H' => exact (set_Alpha w' H' g1 g2 g3 g4 hv hF hd).mono (fun e w'' ⟨h1, h2, h3⟩ => ⟨h1, h2, .k2 h3⟩)
  case k4 H =>
    refine ⟨169, fun _ _ => by kernel_rfl, fun w' => m_RGBA64_Set _ w', fun w' x y r c v tc cv F D dn dn' H' g1 g2 g3 g4 hv hF hd => ?_⟩
    cases H'
    case k4 H' => exact (set_RGBA64 w' H' g1 g2 g3 g4 hv hF hd).mono (fun e w'' ⟨h1, h2, h3⟩ => ⟨h1, h2, .k4 h3⟩)
theorem Src.tne (H : Src w b pb h wd x0 y0 S k t) : t ≠ 83 := by cases H <;> decide
end
/-- an image, its kind hidden -/
abbrev vPl (td : TypeId) (b : Nat) : Value := .agg #[.iface td (.pointer (some ⟨b, 0, none⟩))]

set_option maxHeartbeats 4000000 in
theorem plain_set_c {b pb h wd k r c : Nat} {x0 y0 x y : Int} {F D : Nat → Nat → Nat → Int} {dn dn' : Nat → Nat → Prop} {v : Nat → Int} {tc td : TypeId} {cv : Value} (w : World) (H : Src w b pb h wd x0 y0 (pt dn F D) k td) (hk : k = 0 ∨ k = 2 ∨ k = 4) (e1 : x - x0 = c) (e2 : y - y0 = r) (hc : c < wd) (hr : r < h)
    (hv : ColW w v tc cv) (hF : F r c = cutN (sz k) (en k v)) (hd : ∀ r' c', dn' r' c' ↔ (dn r' c' ∨ (r' = r ∧ c' = c))) :
    Calls Tryz.prog 124 #[vPl td b, .int .i64 x, .int .i64 y, .iface tc cv] w fun e w' => e = .returned (.tuple #[]) ∧ w.grownBy w' (some pb) ∧ Src w' b pb h wd x0 y0 (pt dn' F D) k td := by
  obtain ⟨f, hFn, hM, hS⟩ := H.msetc hk
  unfold Fn at hFn
  have HH := hid H
  have HS := hid hS
  have E1 := hid e1
  have E2 := hid e2
  have HV := hid hv
  have HF := hid hF
  have HD := hid hd
  clear H hS e1 e2 hv hF hd hk
  have hg0 := hid (gb_alloc (gb_refl w none) (.cells #[.iface td (.pointer (some ⟨b, 0, none⟩))] 83))
  go_enter Tryz.func124, Tryz.ntmps124
  go_wp2_with fail
  refine (HS.out _ _ _ r c v _ _ F D dn dn' (HH.out.kept0 hg0.out) E1.out E2.out hc hr (HV.out.kept hg0.out) HF.out HD.out).mono ?_
  rintro e w1 ⟨rfl, hg1, hs1⟩
  have HG1 := hid (gb_trans (gb_weak hg0.out (some pb)) hg1)
  have HS1 := hid hs1
  clear hg1 hs1
  go_wp2_with fail
  exact bodyPost_end (v := .tuple #[]) (by simp [results, Tryz.results124]) rfl ⟨rfl, HG1.out, HS1.out⟩

set_option maxHeartbeats 4000000 in
theorem plain_at_c {b pb h wd k r c : Nat} {x0 y0 x y : Int} {P : Nat → Nat → Nat → Int} {td : TypeId} (w : World) (H : Src w b pb h wd x0 y0 P k td) (e1 : x - x0 = c) (e2 : y - y0 = r) (hc : c < wd) (hr : r < h) :
    Calls Tryz.prog 121 #[vPl td b, .int .i64 x, .int .i64 y] w fun e w' => (∃ tc cv, e = .returned (.iface tc cv) ∧ Col (cl k (P r c)) tc cv) ∧ w.grownBy w' none := by
  obtain ⟨f, hFn, hM, hS⟩ := H.mat
  unfold Fn at hFn
  have HH := hid H
  have HS := hid hS
  have E1 := hid e1
  have E2 := hid e2
  clear H hS e1 e2
  have hg0 := hid (gb_alloc (gb_refl w none) (.cells #[.iface td (.pointer (some ⟨b, 0, none⟩))] 83))
  go_enter Tryz.func121, Tryz.ntmps121
  go_wp2_with fail
  refine (HS.out _ _ _ r c (HH.out.kept0 hg0.out) E1.out E2.out hc hr).mono ?_
  rintro e w1 ⟨⟨tc, cv, rfl, hC⟩, hg1⟩
  have HG1 := hid (gb_trans hg0.out hg1)
  have HC := hid hC
  clear hg1 hC
  go_wp2_with fail
  go_ret
  exact ⟨⟨tc, cv, rfl, HC.out⟩, HG1.out⟩

set_option maxHeartbeats 4000000 in
theorem plain_bd {w : World} {b : Nat} {x0 y0 x1 y1 : Int} {td : TypeId} (H : Bd w td (.pointer (some ⟨b, 0, none⟩)) x0 y0 x1 y1) : Bd w 83 (vPl td b) x0 y0 x1 y1 := by
  obtain ⟨f, hFn, hM, hS⟩ := H
  refine ⟨122, fun _ _ => by kernel_rfl, fun w' => m_plain_Bounds _ w', fun w' hg => ?_⟩
  unfold Fn at hFn
  have HGw := hid hg
  have HS := hid hS
  clear hS hg
  have hg0 := hid (gb_alloc (gb_alloc (gb_refl w' none) (.cells #[.iface td (.pointer (some ⟨b, 0, none⟩))] 83)) (.cells #[.int .i64 0, .int .i64 0, .int .i64 0, .int .i64 0] 78))
  go_enter Tryz.func122, Tryz.ntmps122
  go_wp2_with fail
  refine (HS.out _ (gb_trans HGw.out hg0.out)).mono ?_
  rintro e w1 ⟨rfl, hg1⟩
  have hz := hg1.size
  simp at hz
  obtain ⟨cc, ff⟩ := gb_rules hg1
  have HG1 := hid hg1
  clear hg1
  go_wp2_with fail
  have d0 : w1.cell? ⟨w'.heap.size + 1, 0, none⟩ = some (.int .i64 0) := (cc _ 0 (by simp)).trans (by go_simp)
  have d1 : w1.cell? ⟨w'.heap.size + 1, 1, none⟩ = some (.int .i64 0) := (cc _ 1 (by simp)).trans (by go_simp)
  have d2 : w1.cell? ⟨w'.heap.size + 1, 2, none⟩ = some (.int .i64 0) := (cc _ 2 (by simp)).trans (by go_simp)
  have d3 : w1.cell? ⟨w'.heap.size + 1, 3, none⟩ = some (.int .i64 0) := (cc _ 3 (by simp)).trans (by go_simp)
  have G := fun (W : World) (i : Nat) (u : Value) (h : w'.grownBy W none) => gb_setCell h (p := ⟨w'.heap.size + 1, i, none⟩) (.inr (Nat.le_succ _)) u
  exact bodyPost_ret (v := vR x0 y0 x1 y1) (by simp [results, Tryz.results122, go_sem, d0, d1, d2, d3]) rfl ⟨rfl, G _ _ _ (G _ _ _ (G _ _ _ (G _ _ _ (gb_trans hg0.out HG1.out))))⟩

theorem ta_plain_R64 (v : Value) (w : World) : (Instr.typeAssert (.iface 83 v) 70 146 true).run Tryz.prog w = .ok (.tuple #[.nilIface, .bool false]) w := run_typeAssert_lacksB Tryz.underlying146 (by kernel_rfl) (by kernel_rfl) v _ w
attribute [go_sem] ta_plain_R64
set_option maxRecDepth 100000 in
set_option maxHeartbeats 4000000 in
theorem pbackp_c {w : World} {x0 y0 x1 y1 px py : Int} {ts : TypeId} {vd vs : Value} (hne : ts ≠ 83) :
    Calls Tryz.prog 69 #[.iface 83 vd, vR x0 y0 x1 y1, .iface ts vs, vP px py] w fun e w' => e = .returned (.bool false) ∧ w.grownBy w' none := by
  have E : ∀ w', (binOp .eql 72 (.iface 83 vd) (.iface ts vs)).run Tryz.prog w' = .ok (.bool false) w' :=
    fun w' => run_eql_iface_types _ _ _ _ Tryz.underlying72 (fun e => hne e.symm) w'
  go_enter Tryz.func69, Tryz.ntmps69
  go_wp2
  go_quiet (fail)
  go_wp2
  go_ret
  exact ⟨rfl, gb_drewN (gb_alloc (gb_alloc (gb_refl _ _) _) _) _⟩
end Go.Proofs.YtgjpohmjkhgpfaaGreat
