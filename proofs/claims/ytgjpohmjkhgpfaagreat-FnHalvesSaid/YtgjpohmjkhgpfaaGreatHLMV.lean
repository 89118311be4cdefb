/- What the laws FnHalves and FnMoved need: an image moved, a row of bytes as a string. No condition. -/
import Derived.Test.YtgjpohmjkhgpfaaGreatHLPH
import Derived.Test.YtgjpohmjkhgpfaaGreatHLU
import Derived.Test.YtgjpohmjkhgpfaaGreatHb
set_option linter.unusedSimpArgs false
set_option linter.unusedVariables false
namespace Go.Proofs.YtgjpohmjkhgpfaaGreat
open Go.RowKit

theorem conv0 (q : Nat → Int) (w : World) : (convert 22 9 (.slice none 0 0)).run Tryz.prog w = .ok (.string (strOfNums (byL 0 q))) w := by
  rw [run_convert_bytes_string w 22 9 5 _ 0 0 Tryz.underlying22 (by kernel_rfl) (by kernel_rfl)]
  rfl
/-- a row of bytes of one's own, as a string -/
theorem convO {w : World} {B n c : Nat} {q : Nat → Int} {A : Option Addr} (h : Own w B n q A c) : (convert 22 9 (.slice A n c)).run Tryz.prog w = .ok (.string (strOfNums (byL n q))) w := by
  rcases h with ⟨rfl, rfl, rfl⟩ | ⟨g, C, rfl, hB, hg, h1, h2, hC⟩
  · exact conv0 q w
  · refine convN c (fun i hi => ?_)
    have ad : (⟨g, 0, none⟩ : Addr).add i = ⟨g, i, none⟩ := by unfold Addr.add; by_cases h : i = 0 <;> simp [h]
    rw [ad]
    exact cell_at hg (hC i hi)

theorem mv_ne {k : Nat} (h : k ≠ 6) (x d : Int) : mv k x d = x + d := if_neg h
set_option maxRecDepth 100000 in
set_option maxHeartbeats 4000000 in
theorem moved_c {k n c : Nat} {X0 Y0 X1 Y1 x y : Int} {A : Option Addr} (w : World) (hb : k = 6 ∨ (sm X0 ∧ sm Y0 ∧ sm X1 ∧ sm Y1)) (hx : sm x) (hy : sm y) :
    Calls Tryz.prog 23 #[vI k X0 Y0 X1 Y1 A n c, .int .i64 x, .int .i64 y] w fun e w' => e = .returned (vI k (mv k X0 x) (mv k Y0 y) (mv k X1 x) (mv k Y1 y) A n c) ∧ w.grownBy w' none := by
  by_cases h6 : k = 6
  · subst h6
    have e : ∀ a b, mv 6 a b = a := fun a b => if_pos rfl
    rw [e, e, e, e]
    clear hb hx hy
    go_enter Tryz.func23, Tryz.ntmps23
    go_wp2
    exact bodyPost_ret (v := vI (6 : Nat) X0 Y0 X1 Y1 A n c) (by simp [results, Tryz.results23, go_sem]) rfl ⟨rfl, by (repeat (first | exact gb_refl _ _ | refine gb_alloc ?_ _ | refine gb_setCell ?_ (.inr (by simp <;> omega)) _))⟩
  · obtain ⟨h1, h2, h3, h4⟩ := hb.resolve_left h6
    unfold sm at *
    rw [mv_ne h6, mv_ne h6, mv_ne h6, mv_ne h6]
    have w1 : IntKind.i64.wrap (X0 + x) = X0 + x := IntWalk.i64_in _ (by omega)
    have w2 : IntKind.i64.wrap (Y0 + y) = Y0 + y := IntWalk.i64_in _ (by omega)
    have w3 : IntKind.i64.wrap (X1 + x) = X1 + x := IntWalk.i64_in _ (by omega)
    have w4 : IntKind.i64.wrap (Y1 + y) = Y1 + y := IntWalk.i64_in _ (by omega)
    have hk : ((k : Int) != 6) = true := by rw [bne_iff_ne]; omega
    have hk2 : ¬ ((k : Int) = 6) := by omega
    clear hb h1 h2 h3 h4 hx hy
    go_enter Tryz.func23, Tryz.ntmps23
    go_wp2
    exact bodyPost_ret (v := vI k (X0 + x) (Y0 + y) (X1 + x) (Y1 + y) A n c) (by simp [results, Tryz.results23, go_sem]) rfl ⟨rfl, by (repeat (first | exact gb_refl _ _ | refine gb_alloc ?_ _ | refine gb_setCell ?_ (.inr (by simp <;> omega)) _))⟩
/-- an image's corner lies near, but for one color -/
def Near0 (k : Nat) (X0 Y0 X1 Y1 : Int) : Prop := k = 6 ∨ (-200 ≤ X0 ∧ X0 ≤ 200 ∧ -200 ≤ Y0 ∧ Y0 ≤ 200 ∧ -200 ≤ X1 ∧ X1 ≤ 200 ∧ -200 ≤ Y1 ∧ Y1 ≤ 200)
theorem vk_near {k n : Nat} {X0 Y0 X1 Y1 : Int} {p : Nat → Int} (h : VK k X0 Y0 X1 Y1 n p) : Near0 k X0 Y0 X1 Y1 := by
  by_cases h6 : k = 6
  · exact .inl h6
  · have hk : k < 6 := by rcases h with ⟨h, -⟩ | ⟨h, -⟩ <;> omega
    obtain ⟨hh, wd, G, e1, e2, hnn, l1, l2, v1, v2, v3, v4⟩ := vk_geo hk h
    exact .inr ⟨by omega, by omega, by omega, by omega, by omega, by omega, by omega, by omega⟩
theorem Near0.sm {k : Nat} {X0 Y0 X1 Y1 : Int} (h : Near0 k X0 Y0 X1 Y1) : k = 6 ∨ (Go.Proofs.YtgjpohmjkhgpfaaGreat.sm X0 ∧ Go.Proofs.YtgjpohmjkhgpfaaGreat.sm Y0 ∧ Go.Proofs.YtgjpohmjkhgpfaaGreat.sm X1 ∧ Go.Proofs.YtgjpohmjkhgpfaaGreat.sm Y1) := by
  rcases h with h | ⟨h1, h2, h3, h4, h5, h6, h7, h8⟩
  · exact .inl h
  · unfold Go.Proofs.YtgjpohmjkhgpfaaGreat.sm
    exact .inr ⟨by omega, by omega, by omega, by omega⟩
theorem geo_mv {k n h wd : Nat} {X0 Y0 X1 Y1 x0 y0 x1 y1 d e : Int} (G : Geo k x0 y0 x1 y1 n h wd) (hb : Near0 k X0 Y0 X1 Y1) (hX : k = 6 ∨ (x0 = X0 ∧ y0 = Y0 ∧ x1 = X1 ∧ y1 = Y1)) (hd : nr d) (he : nr e) :
    Geo k (mv k x0 d) (mv k y0 e) (mv k x1 d) (mv k y1 e) n h wd := by
  unfold nr at hd he
  rcases G with ⟨rfl, g⟩ | ⟨hk, g1, g2, g3, g4, g5, g6, g7, g8, g9⟩
  · have q : ∀ a b, mv 6 a b = a := fun a b => if_pos rfl
    rw [q, q, q, q]
    exact .inl ⟨rfl, g⟩
  · obtain ⟨rfl, rfl, rfl, rfl⟩ := hX.resolve_left (by omega)
    obtain ⟨h1, h2, h3, h4, h5, h6, h7, h8⟩ := hb.resolve_left (by omega)
    rw [mv_ne (by omega), mv_ne (by omega), mv_ne (by omega), mv_ne (by omega)]
    exact .inr ⟨hk, by omega, by omega, g3, g4, g5, by omega, by omega, by omega, by omega⟩
theorem dat_mv {k n : Nat} {X0 Y0 X1 Y1 x0 y0 x1 y1 d e : Int} {p : Nat → Int} (D : Dat k X0 Y0 X1 Y1 x0 y0 x1 y1 n p) (hb : Near0 k X0 Y0 X1 Y1) (hd : nr d) (he : nr e) :
    Dat k (mv k X0 d) (mv k Y0 e) (mv k X1 d) (mv k Y1 e) (mv k x0 d) (mv k y0 e) (mv k x1 d) (mv k y1 e) n p := by
  unfold nr at hd he
  obtain ⟨h1, h2, h3, h4, h5, h6, h7, h8, h9, h10⟩ := D
  by_cases hk : k = 6
  · subst hk
    have q : ∀ a b, mv 6 a b = a := fun a b => if_pos rfl
    rw [q, q, q, q, q, q, q, q]
    exact ⟨h1, h2, h3, h4, h5, h6, h7, h8, h9, h10⟩
  · obtain ⟨g1, g2, g3, g4, g5, g6, g7, g8⟩ := hb.resolve_left hk
    have b : ∀ f x, bdk k f x = x := fun f x => by unfold bdk; rw [if_neg hk]
    rw [b] at h7 h8 h9 h10
    subst h7 h8 h9 h10
    rw [mv_ne hk, mv_ne hk, mv_ne hk, mv_ne hk]
    exact ⟨h1, h2, h3, h4, .inr (by unfold sm; omega), .inr (by unfold sm; omega), b _ _, b _ _, b _ _, b _ _⟩
theorem far_of {k n h wd : Nat} {x0 y0 x1 y1 : Int} (G : Geo k x0 y0 x1 y1 n h wd) : Far k x0 y0 h wd := by
  intro h6
  rcases G with ⟨-, -, e1, e2, -, -, e3, e4⟩ | ⟨hk, -⟩
  · exact ⟨e1, e2, e3, e4⟩
  · omega
end Go.Proofs.YtgjpohmjkhgpfaaGreat
