/- A drawn region whose operations yield known values, make variables and store into them: what holds of it in whatever order. No condition. -/
import Derived.Test.YtgjpohmjkhgpfaaGreatRG
import Derived.Test.YtgjpohmjkhgpfaaGreatB
set_option linter.unusedSimpArgs false
set_option linter.unusedVariables false
namespace Go.Proofs.YtgjpohmjkhgpfaaGreat
open Go.RowKit

/-- V: the values that are known (by the operation's number); vs: the variables (the operation that makes it, the one that stores into it, what it holds then) -/
def JV (W0 : World) (V : List (Option Value)) (vs : List (Nat × Nat × List Value)) (l : Nat → Bool) (t : Nat → Value) (w : World) : Prop :=
  W0.grownBy w none ∧ (∀ j v, V[j]? = some (some v) → l j = true → t j = v) ∧
  (∀ x, x ∈ vs → l x.1 = true → ∃ g, t x.1 = .pointer (some ⟨g, 0, none⟩) ∧ W0.heap.size ≤ g ∧ g < w.heap.size ∧
    (∀ i, i < x.2.2.length → (∃ u, w.cell? ⟨g, i, none⟩ = some u) ∧ w.frozen? ⟨g, i, none⟩ = false) ∧
    (l x.2.1 = true → ∀ i v, x.2.2[i]? = some v → w.cell? ⟨g, i, none⟩ = some v)) ∧
  (∀ x y, x ∈ vs → y ∈ vs → x.1 ≠ y.1 → l x.1 = true → l y.1 = true → t x.1 ≠ t y.1) ∧
  (∀ x, x ∈ vs → l x.2.1 = true → l x.1 = true)

section
variable {W0 w w' : World} {V : List (Option Value)} {vs : List (Nat × Nat × List Value)} {l : Nat → Bool} {t : Nat → Value} {i : Nat}

theorem JV.gb (h : JV W0 V vs l t w) : W0.grownBy w none := h.1
theorem JV.val (h : JV W0 V vs l t w) (j : Nat) (v : Value) (hv : V[j]? = some (some v)) (hl : l j = true) : t j = v := h.2.1 j v hv hl
theorem JV.start (hg : W0.grownBy w none) : JV W0 V vs (fun _ => false) t w :=
  ⟨hg, fun _ _ _ h => (by cases h), fun _ _ h => (by cases h), fun _ _ _ _ _ h => (by cases h), fun _ _ h => (by cases h)⟩

def niB (vs : List (Nat × Nat × List Value)) (i : Nat) : Bool := vs.all fun x => x.1 != i && x.2.1 != i
theorem niB_spec (h : niB vs i = true) : ∀ x, x ∈ vs → x.1 ≠ i ∧ x.2.1 ≠ i := fun x hx => by
  have := List.all_eq_true.1 h x hx
  simpa using this
/-- no operation's number is used for two things -/
def vsOK (vs : List (Nat × Nat × List Value)) : Prop :=
  (∀ x y, x ∈ vs → y ∈ vs → x.1 = y.1 → x = y) ∧ (∀ x y, x ∈ vs → y ∈ vs → x.2.1 = y.2.1 → x = y) ∧ (∀ x y, x ∈ vs → y ∈ vs → x.1 ≠ y.2.1)

theorem JV.pure (h : JV W0 V vs l t w) (hg : w.grownBy w' none) {v : Value} (hv : V[i]? = some (some v)) (hni : niB vs i = true) :
    JV W0 V vs (upd l i true) (upd t i v) w' := by
  have hni := niB_spec hni
  obtain ⟨h1, h2, h3, h4, h5⟩ := h
  refine ⟨gb_trans h1 hg, fun j u hu hl => ?_, fun x hx hl => ?_, fun x y hx hy hne hlx hly => ?_, fun x hx hl => (by rw [upd_ne _ _ (hni x hx).2] at hl; rw [upd_ne _ _ (hni x hx).1]; exact h5 x hx hl)⟩
  · by_cases e : j = i
    · subst e
      rw [hv] at hu
      cases hu
      exact upd_same _ _ _
    · rw [upd_ne _ _ e] at hl ⊢
      exact h2 j u hu hl
  · obtain ⟨n1, n2⟩ := hni x hx
    rw [upd_ne _ _ n1] at hl ⊢
    rw [upd_ne _ _ n2]
    obtain ⟨g, e1, e2, e3, e4, e5⟩ := h3 x hx hl
    refine ⟨g, e1, e2, Nat.lt_of_lt_of_le e3 hg.size, fun k hk => ?_, fun hs k v' hv' => ?_⟩
    · obtain ⟨⟨u, hu⟩, hf⟩ := e4 k hk
      exact ⟨⟨u, (gb_cell0 hg (p := ⟨g, k, none⟩) e3).trans hu⟩, (gb_free0 hg (p := ⟨g, k, none⟩) e3).trans hf⟩
    · exact (gb_cell0 hg (p := ⟨g, k, none⟩) e3).trans (e5 hs k v' hv')
  · rw [upd_ne _ _ (hni x hx).1] at hlx ⊢
    rw [upd_ne _ _ (hni y hy).1] at hly ⊢
    exact h4 x y hx hy hne hlx hly

theorem JV.alloc (h : JV W0 V vs l t w) (hok : vsOK vs) {s : Nat} {vals : List Value} (hx : (i, s, vals) ∈ vs) (hv : V[i]? = some none) (hi : l i = false) {C : Array Value} {T : TypeId} (hC : C.size = vals.length)
    (hw : w' = w.alloc (.cells C T)) : JV W0 V vs (upd l i true) (upd t i (.pointer (some ⟨w.heap.size, 0, none⟩))) w' := by
  subst hw
  obtain ⟨h1, h2, h3, h4, h5⟩ := h
  have hs : l s = false := by
    cases e : l s
    · rfl
    · have := h5 _ hx e
      simp only [hi] at this
      cases this
  obtain ⟨k1, k2, k3⟩ := hok
  have hg : w.grownBy (w.alloc (.cells C T)) none := gb_alloc (gb_refl _ _) _
  refine ⟨gb_trans h1 hg, fun j u hu hl => ?_, fun x hxx hl => ?_, fun x y hxx hyy hne hlx hly => ?_, fun x hxx hl => ?_⟩
  · by_cases e : j = i
    · subst e
      rw [hv] at hu
      cases hu
    · rw [upd_ne _ _ e] at hl ⊢
      exact h2 j u hu hl
  · by_cases e : x.1 = i
    · obtain rfl : x = (i, s, vals) := k1 _ _ hxx hx e
      have hsi : s ≠ i := fun e' => k3 _ _ hx hx e'.symm
      refine ⟨w.heap.size, upd_same _ _ _, h1.size, by simp, fun k hk => ?_, fun hs' => ?_⟩
      · have hb : (w.alloc (.cells C T)).heap[w.heap.size]? = some (.cells C T (0, 0)) := by
          show (w.heap.push (.cells C T (0, 0)))[w.heap.size]? = _
          simp
        have hk' : k < C.size := by rw [hC]; exact hk
        exact ⟨⟨C[k], cell_at hb (by simp [hk'])⟩, by unfold World.frozen?; rw [hb]; simp⟩
      · rw [upd_ne _ _ hsi, hs] at hs'
        cases hs'
    · rw [upd_ne _ _ e] at hl ⊢
      have e2 : x.2.1 ≠ i := fun e' => k3 _ _ hx hxx e'.symm
      rw [upd_ne _ _ e2]
      obtain ⟨g, e1, e2, e3, e4, e5⟩ := h3 x hxx hl
      refine ⟨g, e1, e2, Nat.lt_of_lt_of_le e3 hg.size, fun k hk => ?_, fun hs k v' hv' => ?_⟩
      · obtain ⟨⟨u, hu⟩, hf⟩ := e4 k hk
        exact ⟨⟨u, (gb_cell0 hg (p := ⟨g, k, none⟩) e3).trans hu⟩, (gb_free0 hg (p := ⟨g, k, none⟩) e3).trans hf⟩
      · exact (gb_cell0 hg (p := ⟨g, k, none⟩) e3).trans (e5 hs k v' hv')
  · have fresh : ∀ z, z ∈ vs → l z.1 = true → t z.1 ≠ .pointer (some ⟨w.heap.size, 0, none⟩) := by
      intro z hz hlz e
      obtain ⟨g, e1, e2, e3, -⟩ := h3 z hz hlz
      rw [e] at e1
      have := congrArg (fun v : Value => match v with | .pointer (some a) => a.block | _ => 0) e1
      simp only at this
      omega
    by_cases ex : x.1 = i
    · have ey : y.1 ≠ i := fun e => hne (ex.trans e.symm)
      rw [upd_ne _ _ ey] at hly ⊢
      rw [ex, upd_same]
      exact fun e => fresh y hyy hly e.symm
    · rw [upd_ne _ _ ex] at hlx ⊢
      by_cases ey : y.1 = i
      · rw [ey, upd_same]
        exact fresh x hxx hlx
      · rw [upd_ne _ _ ey] at hly ⊢
        exact h4 x y hxx hyy hne hlx hly
  · have e2 : x.2.1 ≠ i := fun e' => k3 _ _ hx hxx e'.symm
    rw [upd_ne _ _ e2] at hl
    by_cases e : x.1 = i
    · rw [e]; exact upd_same _ _ _
    · rw [upd_ne _ _ e]; exact h5 x hxx hl

theorem JV.store (h : JV W0 V vs l t w) (hok : vsOK vs) {a g : Nat} {vals : List Value} (hx : (a, i, vals) ∈ vs) (hv : V[i]? = some none) (hl : l a = true) (hp : t a = .pointer (some ⟨g, 0, none⟩)) {u : Value}
    (hg : w.grownBy w' (some g)) (hc : ∀ k v, vals[k]? = some v → w'.cell? ⟨g, k, none⟩ = some v) (hf : ∀ k, w'.frozen? ⟨g, k, none⟩ = w.frozen? ⟨g, k, none⟩) : JV W0 V vs (upd l i true) (upd t i u) w' := by
  obtain ⟨h1, h2, h3, h4, h5⟩ := h
  obtain ⟨k1, k2, k3⟩ := hok
  obtain ⟨g0, p1, p2, p3, -, -⟩ := h3 _ hx hl
  have hgg : g0 = g := by
    have e := p1.symm.trans hp
    have := congrArg (fun v : Value => match v with | .pointer (some a) => a.block | _ => 0) e
    simpa using this
  subst hgg
  have hgn : ∀ z, z ∈ vs → z.1 ≠ i := fun z hz => k3 _ _ hz hx
  refine ⟨⟨hg.os.trans h1.os, hg.tape.trans h1.tape, hg.output.trans h1.output, Nat.le_trans h1.size hg.size, fun b hb hne => ?_⟩, fun j u' hu hl' => ?_, fun x hxx hlx => ?_, fun x y hxx hyy hne hlx hly => ?_, fun x hxx hlx => ?_⟩
  · refine (hg.block b (Nat.lt_of_lt_of_le hb h1.size) ?_).trans (h1.block b hb hne)
    intro e
    cases e
    omega
  · by_cases e : j = i
    · subst e
      rw [hv] at hu
      cases hu
    · rw [upd_ne _ _ e] at hl' ⊢
      exact h2 j u' hu hl'
  · have n1 := hgn x hxx
    rw [upd_ne _ _ n1] at hlx ⊢
    obtain ⟨g', e1, e2, e3, e4, e5⟩ := h3 x hxx hlx
    by_cases e : x.1 = a
    · obtain rfl : x = (a, i, vals) := k1 _ _ hxx hx e
      obtain rfl : g' = g0 := by
        have e := e1.symm.trans p1
        have := congrArg (fun v : Value => match v with | .pointer (some a) => a.block | _ => 0) e
        simpa using this
      refine ⟨g', e1, e2, Nat.lt_of_lt_of_le e3 hg.size, fun k hk => ⟨⟨vals[k], hc k _ (by simp)⟩, (hf k).trans (e4 k hk).2⟩, fun _ k v' hv' => hc k v' hv'⟩
    · have hne' : g' ≠ g0 := by
        intro e'
        exact h4 x (a, i, vals) hxx hx e hlx hl (by rw [e1, hp, e'])
      have n2 : x.2.1 ≠ i := fun e' => e (congrArg (·.1) (k2 _ _ hxx hx e'))
      rw [upd_ne _ _ n2]
      refine ⟨g', e1, e2, Nat.lt_of_lt_of_le e3 hg.size, fun k hk => ?_, fun hs k v' hv' => ?_⟩
      · obtain ⟨⟨u', hu⟩, hf'⟩ := e4 k hk
        exact ⟨⟨u', (gb_cell hg (p := ⟨g', k, none⟩) e3 hne').trans hu⟩, (World.frozen?_of_block (hg.block g' e3 (fun e => hne' (by injection e)))).trans hf'⟩
      · exact (gb_cell hg (p := ⟨g', k, none⟩) e3 hne').trans (e5 hs k v' hv')
  · rw [upd_ne _ _ (hgn x hxx)] at hlx ⊢
    rw [upd_ne _ _ (hgn y hyy)] at hly ⊢
    exact h4 x y hxx hyy hne hlx hly
  · rw [upd_ne _ _ (hgn x hxx)]
    by_cases e : x.2.1 = i
    · obtain rfl : x = (a, i, vals) := k2 _ _ hxx hx e
      exact hl
    · rw [upd_ne _ _ e] at hlx
      exact h5 x hxx hlx

/-- what the end has of a variable -/
theorem JV.var (h : JV W0 V vs l t w) {a s : Nat} {vals : List Value} (hx : (a, s, vals) ∈ vs) (hl : l a = true) (hs : l s = true) :
    ∃ g, t a = .pointer (some ⟨g, 0, none⟩) ∧ W0.heap.size ≤ g ∧ g < w.heap.size ∧ ∀ k v, vals[k]? = some v → w.cell? ⟨g, k, none⟩ = some v := by
  obtain ⟨g, e1, e2, e3, -, e5⟩ := h.2.2.1 _ hx hl
  exact ⟨g, e1, e2, e3, e5 hs⟩
/-- what a store has of it -/
theorem JV.open (h : JV W0 V vs l t w) {a s : Nat} {vals : List Value} (hx : (a, s, vals) ∈ vs) (hl : l a = true) :
    ∃ g, t a = .pointer (some ⟨g, 0, none⟩) ∧ W0.heap.size ≤ g ∧ g < w.heap.size ∧ ∀ k, k < vals.length → (∃ u, w.cell? ⟨g, k, none⟩ = some u) ∧ w.frozen? ⟨g, k, none⟩ = false := by
  obtain ⟨g, e1, e2, e3, e4, -⟩ := h.2.2.1 _ hx hl
  exact ⟨g, e1, e2, e3, e4⟩
end
theorem vsOK3 {a1 a2 a3 s1 s2 s3 : Nat} {v1 v2 v3 : List Value} (h : (a1 != a2 && a1 != a3 && a2 != a3 && s1 != s2 && s1 != s3 && s2 != s3 && a1 != s1 && a1 != s2 && a1 != s3 && a2 != s1 && a2 != s2 && a2 != s3 && a3 != s1 && a3 != s2 && a3 != s3) = true) :
    vsOK [(a1, s1, v1), (a2, s2, v2), (a3, s3, v3)] := by
  simp only [Bool.and_eq_true, bne_iff_ne] at h
  obtain ⟨⟨⟨⟨⟨⟨⟨⟨⟨⟨⟨⟨⟨⟨h1, h2⟩, h3⟩, h4⟩, h5⟩, h6⟩, h7⟩, h8⟩, h9⟩, h10⟩, h11⟩, h12⟩, h13⟩, h14⟩, h15⟩ := h
  refine ⟨fun x y hx hy e => ?_, fun x y hx hy e => ?_, fun x y hx hy e => ?_⟩ <;>
    (simp only [List.mem_cons, List.not_mem_nil, or_false] at hx hy; rcases hx with rfl | rfl | rfl <;> rcases hy with rfl | rfl | rfl <;> first | rfl | (exfalso; simp only at e; omega))
theorem st2 {w : World} {g : Nat} {u0 u1 v0 v1 : Value} (c0 : w.cell? ⟨g, 0, none⟩ = some u0) (c1 : w.cell? ⟨g, 1, none⟩ = some u1) :
    w.grownBy ((w.setCell ⟨g, 0, none⟩ v0).setCell ⟨g, 1, none⟩ v1) (some g) ∧ (∀ k v, [v0, v1][k]? = some v → ((w.setCell ⟨g, 0, none⟩ v0).setCell ⟨g, 1, none⟩ v1).cell? ⟨g, k, none⟩ = some v) ∧
      ∀ k, ((w.setCell ⟨g, 0, none⟩ v0).setCell ⟨g, 1, none⟩ v1).frozen? ⟨g, k, none⟩ = w.frozen? ⟨g, k, none⟩ := by
  have q0 : w.grownBy (w.setCell ⟨g, 0, none⟩ v0) (some g) := gb_setCell (gb_refl _ _) (p := ⟨g, 0, none⟩) (.inl rfl) _
  have q1 := gb_setCell q0 (p := ⟨g, 1, none⟩) (.inl rfl) v1
  refine ⟨q1, fun k v hk => ?_, fun k => by simp⟩
  rcases k with _ | _ | k
  · obtain rfl : v0 = v := by simpa using hk
    rw [World.cell?_setCell_other _ _ _ _ (by simp)]; exact World.cell?_setCell_same _ _ _ c0
  · obtain rfl : v1 = v := by simpa using hk
    exact World.cell?_setCell_same _ _ _ ((World.cell?_setCell_other _ _ _ _ (by simp)).trans c1)
  · simp at hk
theorem st4 {w : World} {g : Nat} {u0 u1 u2 u3 v0 v1 v2 v3 : Value} (c0 : w.cell? ⟨g, 0, none⟩ = some u0) (c1 : w.cell? ⟨g, 1, none⟩ = some u1) (c2 : w.cell? ⟨g, 2, none⟩ = some u2) (c3 : w.cell? ⟨g, 3, none⟩ = some u3) :
    w.grownBy ((((w.setCell ⟨g, 0, none⟩ v0).setCell ⟨g, 1, none⟩ v1).setCell ⟨g, 2, none⟩ v2).setCell ⟨g, 3, none⟩ v3) (some g) ∧
      (∀ k v, [v0, v1, v2, v3][k]? = some v → ((((w.setCell ⟨g, 0, none⟩ v0).setCell ⟨g, 1, none⟩ v1).setCell ⟨g, 2, none⟩ v2).setCell ⟨g, 3, none⟩ v3).cell? ⟨g, k, none⟩ = some v) ∧
      ∀ k, ((((w.setCell ⟨g, 0, none⟩ v0).setCell ⟨g, 1, none⟩ v1).setCell ⟨g, 2, none⟩ v2).setCell ⟨g, 3, none⟩ v3).frozen? ⟨g, k, none⟩ = w.frozen? ⟨g, k, none⟩ := by
  have q0 : w.grownBy (w.setCell ⟨g, 0, none⟩ v0) (some g) := gb_setCell (gb_refl _ _) (p := ⟨g, 0, none⟩) (.inl rfl) _
  have q1 := gb_setCell q0 (p := ⟨g, 1, none⟩) (.inl rfl) v1
  have q2 := gb_setCell q1 (p := ⟨g, 2, none⟩) (.inl rfl) v2
  have q3 := gb_setCell q2 (p := ⟨g, 3, none⟩) (.inl rfl) v3
  refine ⟨q3, fun k v hk => ?_, fun k => by simp⟩
  rcases k with _ | _ | _ | _ | k
  · obtain rfl : v0 = v := by simpa using hk
    rw [World.cell?_setCell_other _ _ _ _ (by simp), World.cell?_setCell_other _ _ _ _ (by simp), World.cell?_setCell_other _ _ _ _ (by simp)]; exact World.cell?_setCell_same _ _ _ c0
  · obtain rfl : v1 = v := by simpa using hk
    rw [World.cell?_setCell_other _ _ _ _ (by simp), World.cell?_setCell_other _ _ _ _ (by simp)]; exact World.cell?_setCell_same _ _ _ ((World.cell?_setCell_other _ _ _ _ (by simp)).trans c1)
  · obtain rfl : v2 = v := by simpa using hk
    rw [World.cell?_setCell_other _ _ _ _ (by simp)]; exact World.cell?_setCell_same _ _ _ ((World.cell?_setCell_other _ _ _ _ (by simp)).trans ((World.cell?_setCell_other _ _ _ _ (by simp)).trans c2))
  · obtain rfl : v3 = v := by simpa using hk
    exact World.cell?_setCell_same _ _ _ ((World.cell?_setCell_other _ _ _ _ (by simp)).trans ((World.cell?_setCell_other _ _ _ _ (by simp)).trans ((World.cell?_setCell_other _ _ _ _ (by simp)).trans c3)))
  · simp at hk
end Go.Proofs.YtgjpohmjkhgpfaaGreat
