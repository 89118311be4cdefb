/- What the laws' walks need: a region several of whose operations yield rows of bytes; an opaque mask of one color is as none. No condition. -/
import Derived.Test.YtgjpohmjkhgpfaaGreatHb
import Derived.Test.YtgjpohmjkhgpfaaGreatHN13
set_option linter.unusedSimpArgs false
set_option linter.unusedVariables false
namespace Go.Proofs.YtgjpohmjkhgpfaaGreat
open Go.RowKit

theorem JV.any {W0 w w' : World} {V : List (Option Value)} {vs : List (Nat × Nat × List Value)} {l : Nat → Bool} {t : Nat → Value} {i : Nat} (h : JV W0 V vs l t w) (hg : w.grownBy w' none) (hv : V[i]? = some none) (hni : niB vs i = true) (v : Value) : JV W0 V vs (upd l i true) (upd t i v) w' := by
  have hni := niB_spec hni
  obtain ⟨h1, h2, h3, h4, h5⟩ := h
  refine ⟨gb_trans h1 hg, fun j u hu hl => ?_, fun x hx hl => ?_, fun x y hx hy hne hlx hly => ?_, fun x hx hl => (by rw [upd_ne _ _ (hni x hx).2] at hl; rw [upd_ne _ _ (hni x hx).1]; exact h5 x hx hl)⟩
  · by_cases e : j = i
    · subst e
      rw [hv] at hu
      cases hu
    · rw [upd_ne _ _ e] at hl ⊢
      exact h2 j u hu hl
  · obtain ⟨n1, n2⟩ := hni x hx
    rw [upd_ne _ _ n1] at hl ⊢
    rw [upd_ne _ _ n2]
    obtain ⟨g, e1, e2, e3, e4, e5⟩ := h3 x hx hl
    refine ⟨g, e1, e2, Nat.lt_of_lt_of_le e3 hg.size, fun k hk => ?_, fun hs k v' hv' => ?_⟩
    · obtain ⟨⟨u, hu⟩, hf⟩ := e4 k hk
      exact ⟨⟨u, (gb_cell0 hg (p := ⟨g, k, none⟩) e3).trans hu⟩, (gb_free0 hg (p := ⟨g, k, none⟩) e3).trans hf⟩
    · exact (gb_cell0 hg (p := ⟨g, k, none⟩) e3).trans (e5 hs k v' hv')
  · rw [upd_ne _ _ (hni x hx).1] at hlx ⊢
    rw [upd_ne _ _ (hni y hy).1] at hly ⊢
    exact h4 x y hx hy hne hlx hly

/-- the values, the variables, and the operations (os) that yield rows of bytes of their own, all the same row -/
def JP (W0 : World) (V : List (Option Value)) (vs : List (Nat × Nat × List Value)) (os : List Nat) (B n : Nat) (q : Nat → Int) (l : Nat → Bool) (t : Nat → Value) (w : World) : Prop :=
  JV W0 V vs l t w ∧ ∀ i ∈ os, l i = true → ∃ A c, t i = .slice A n c ∧ Own w B n q A c
section
variable {W0 w w' : World} {V : List (Option Value)} {vs : List (Nat × Nat × List Value)} {os : List Nat} {l : Nat → Bool} {t : Nat → Value} {i B n : Nat} {q : Nat → Int}
theorem JP.start (hg : W0.grownBy w none) : JP W0 V vs os B n q (fun _ => false) t w := ⟨JV.start hg, fun _ _ h => (by cases h)⟩
theorem JP.pure (h : JP W0 V vs os B n q l t w) (hg : w.grownBy w' none) {v : Value} (hv : V[i]? = some (some v)) (hni : niB vs i = true) (hne : os.contains i = false) : JP W0 V vs os B n q (upd l i true) (upd t i v) w' := by
  refine ⟨h.1.pure hg hv hni, fun j hj hl => ?_⟩
  have hne' : j ≠ i := by
    rintro rfl
    rw [List.contains_iff_mem.2 hj] at hne
    cases hne
  rw [upd_ne _ _ hne'] at hl ⊢
  obtain ⟨A, c, e, ho⟩ := h.2 j hj hl
  exact ⟨A, c, e, ho.kept0 hg⟩
theorem JP.own (h : JP W0 V vs os B n q l t w) (hg : w.grownBy w' none) (hv : V[i]? = some none) (hni : niB vs i = true) {A : Option Addr} {c : Nat} (ho : Own w' B n q A c) : JP W0 V vs os B n q (upd l i true) (upd t i (.slice A n c)) w' := by
  refine ⟨h.1.any hg hv hni _, fun j hj hl => ?_⟩
  by_cases e : j = i
  · subst e
    exact ⟨A, c, upd_same _ _ _, ho⟩
  · rw [upd_ne _ _ e] at hl ⊢
    obtain ⟨A', c', e', ho'⟩ := h.2 j hj hl
    exact ⟨A', c', e', ho'.kept0 hg⟩
end

theorem opq_eq {kd ks op dh dw sh sw i : Nat} {x0 y0 x1 y1 px py dx0 dy0 sx0 sy0 : Int} {p s m : Nat → Int} (hm : ∀ i, m i = 255)
    (hx : -100000000 ≤ x0 ∧ x0 ≤ 100000000 ∧ -100000000 ≤ y0 ∧ y0 ≤ 100000000) (hd : -100000000 ≤ dx0 ∧ dx0 ≤ 100000000 ∧ -100000000 ≤ dy0 ∧ dy0 ≤ 100000000) (hw : dw ≤ 128) (hh : dh ≤ 128) (hi : i < dh * (dw * sz kd)) :
    resB kd dw (In1 x0 y0 x1 y1 px py 0 0 dx0 dy0 sx0 sy0 (-1000000000) (-1000000000) sh sw 2000000000 2000000000) (fun r c => pxM kd ks 6 op (toP dw (sz kd) p r c) (srcAt ks sw s x0 y0 px py dx0 dy0 sx0 sy0 r c) (srcAt 6 2000000000 m x0 y0 0 0 dx0 dy0 (-1000000000) (-1000000000) r c)) p i =
      resB kd dw (In0 x0 y0 x1 y1 px py dx0 dy0 sx0 sy0 sh sw) (fun r c => px0 kd ks op (toP dw (sz kd) p r c) (srcAt ks sw s x0 y0 px py dx0 dy0 sx0 sy0 r c)) p i := by
  obtain ⟨hr, hc, -⟩ := un_lt hi
  unfold resB unP
  obtain ⟨r, er⟩ : ∃ r, i / (dw * sz kd) = r := ⟨_, rfl⟩
  obtain ⟨c, ec⟩ : ∃ c, i % (dw * sz kd) / sz kd = c := ⟨_, rfl⟩
  rw [er] at hr ⊢
  rw [ec] at hc ⊢
  have e : In1 x0 y0 x1 y1 px py 0 0 dx0 dy0 sx0 sy0 (-1000000000) (-1000000000) sh sw 2000000000 2000000000 r c ↔ In0 x0 y0 x1 y1 px py dx0 dy0 sx0 sy0 sh sw r c := by
    unfold In1
    exact ⟨And.left, fun h => ⟨h, by omega, by omega, by omega, by omega⟩⟩
  have em : srcAt 6 2000000000 m x0 y0 0 0 dx0 dy0 (-1000000000) (-1000000000) r c = m := by
    unfold srcAt srcP
    rw [if_pos rfl]
  have e3 : cl 6 m 3 = 65535 := by
    show m (2 * 3) * 256 + m (2 * 3 + 1) = 65535
    rw [hm, hm]; decide
  by_cases h : In0 x0 y0 x1 y1 px py dx0 dy0 sx0 sy0 sh sw r c
  · rw [pt_pos (e.2 h), pt_pos h]
    rw [em, pxM_full e3]
  · rw [pt_neg (fun h' => h (e.1 h')), pt_neg h]
theorem q0_by {kd ks op dh dw sh sw n : Nat} {Xd0 Yd0 sx0 sy0 q0 q1 q2 q3 px py : Int} {p s : Nat → Int} (hkd : kd = 0 ∨ kd = 2 ∨ kd = 4) (hn : n = dh * (dw * sz kd)) (hp : By p) (hs : By s) (hpm : Pmk ks s) :
    By (cutN n (resB kd dw (In0 q0 q1 q2 q3 px py Xd0 Yd0 sx0 sy0 sh sw) (fun r c => px0 kd ks op (toP dw (sz kd) p r c) (srcAt ks sw s q0 q1 px py Xd0 Yd0 sx0 sy0 r c)) p)) :=
  by_res hn hp (fun r c ch hch => px0_by hkd (by_toP hp _ _ _ _) (by_srcP hs _ _) (pm_src hpm _ _) hch)
theorem by255 : By (fun _ => (255 : Int)) := fun _ => ⟨by show (0 : Int) ≤ 255; decide, by show (255 : Int) ≤ 255; decide⟩
theorem white_c (w5 : World) (px py : Int) : ∃ w6, (((w5.alloc (.cells #[.int .i64 px, .int .i64 py] 3)).alloc (.cells #[.int .u8 255, .int .u8 255, .int .u8 255, .int .u8 255, .int .u8 255, .int .u8 255, .int .u8 255, .int .u8 255] 5)).alloc
      (.cells #[.int .i64 6, .int .i64 0, .int .i64 0, .int .i64 0, .int .i64 0, .slice (some ⟨w5.heap.size + 1, 0, none⟩) 8 8] 24)) = w6 ∧ w5.grownBy w6 none ∧ CellsAt w6 (w5.heap.size + 1 + 1) [.int .i64 6, .int .i64 0, .int .i64 0, .int .i64 0, .int .i64 0, .slice (some ⟨w5.heap.size + 1, 0, none⟩) 8 8] ∧
      Rd w6 (some ⟨w5.heap.size + 1, 0, none⟩) 8 (fun _ => 255) := by
  refine ⟨_, rfl, (by (repeat (first | exact gb_refl _ _ | refine gb_alloc ?_ _))), fun i v hv => (by (rcases i with _ | _ | _ | _ | _ | _ | i <;> (first | (cases hv; go_simp; done) | (simp at hv; done)))), fun _ => ⟨_, rfl, by simp <;> omega, fun i hi => ?_⟩⟩
  rcases i with _ | _ | _ | _ | _ | _ | _ | _ | i <;> (first | (simp only [Addr.add]; go_simp; done) | (exfalso; omega))
end Go.Proofs.YtgjpohmjkhgpfaaGreat
