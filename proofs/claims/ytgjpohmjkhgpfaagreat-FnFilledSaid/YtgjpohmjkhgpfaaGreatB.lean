/- Memory that holds an image's pixels: what its bytes are, and what stays of them when a pixel is stored. No condition. -/
import Derived.Test.YtgjpohmjkhgpfaaGreatProg
import Derived.WalkKit
import Derived.Outline
import Derived.Deep.QuietTactic
import Derived.BigQuiet
import Derived.Laws.AppendOwn
import Derived.OneCell
set_option linter.unusedSimpArgs false
set_option linter.unusedVariables false
namespace Go.Proofs.YtgjpohmjkhgpfaaGreat
open Go.RowKit

theorem hid {p : Prop} (h : p) : Hid p := h

/-- block b holds an image's pixels: h rows, wd columns, k bytes a pixel; P r c ch: the byte -/
def PixI (w : World) (b h wd k : Nat) (P : Nat → Nat → Nat → Int) : Prop :=
  ∃ C, w.heap[b]? = some (.cells C 5 (0, 0)) ∧ ∀ r c ch, r < h → c < wd → ch < k → C[r * (wd * k) + c * k + ch]? = some (.int .u8 (P r c ch))

theorem pix_bound {h wd k r c ch : Nat} (hr : r < h) (hc : c < wd) (hch : ch < k) : r * (wd * k) + c * k + ch < h * (wd * k) := by
  have h1 : r * (wd * k) + wd * k ≤ h * (wd * k) := by
    have := Nat.mul_le_mul_right (wd * k) (show r + 1 ≤ h by omega)
    rw [Nat.add_mul, Nat.one_mul] at this; exact this
  have h2 : c * k + k ≤ wd * k := by
    have := Nat.mul_le_mul_right k (show c + 1 ≤ wd by omega)
    rw [Nat.add_mul, Nat.one_mul] at this; exact this
  omega
theorem pix_col {wd k c ch : Nat} (hc : c < wd) (hch : ch < k) : c * k + ch < wd * k := by
  have := Nat.mul_le_mul_right k (show c + 1 ≤ wd by omega)
  rw [Nat.add_mul, Nat.one_mul] at this; omega
theorem divmod_inj {n q r q' r' : Nat} (hr : r < n) (hr' : r' < n) (h : q * n + r = q' * n + r') : q = q' ∧ r = r' := by
  have h1 : (q * n + r) / n = q := by rw [Nat.mul_comm, Nat.mul_add_div (by omega), Nat.div_eq_of_lt hr]; rfl
  have h2 : (q' * n + r') / n = q' := by rw [Nat.mul_comm, Nat.mul_add_div (by omega), Nat.div_eq_of_lt hr']; rfl
  have : q = q' := by rw [← h1, ← h2, h]
  subst this
  exact ⟨rfl, by omega⟩
theorem pix_inj {wd k r c ch r' c' ch' : Nat} (hc : c < wd) (hch : ch < k) (hc' : c' < wd) (hch' : ch' < k)
    (h : r * (wd * k) + c * k + ch = r' * (wd * k) + c' * k + ch') : r = r' ∧ c = c' ∧ ch = ch' := by
  obtain ⟨e1, e2⟩ := divmod_inj (pix_col hc hch) (pix_col hc' hch') (by omega : r * (wd * k) + (c * k + ch) = r' * (wd * k) + (c' * k + ch'))
  obtain ⟨e3, e4⟩ := divmod_inj hch hch' e2
  exact ⟨e1, e3, e4⟩

section
variable {w : World} {b h wd k : Nat} {P : Nat → Nat → Nat → Int}
theorem PixI.cell (H : PixI w b h wd k P) {r c ch i : Nat} (hr : r < h) (hc : c < wd) (hch : ch < k) (hi : i = r * (wd * k) + c * k + ch) :
    w.cell? ⟨b, i, none⟩ = some (.int .u8 (P r c ch)) := by
  obtain ⟨C, hC, hg⟩ := H
  subst hi
  simp [World.cell?, hC, hg r c ch hr hc hch]
theorem PixI.free (H : PixI w b h wd k P) (i : Nat) : w.frozen? ⟨b, i, none⟩ = false := by
  obtain ⟨C, hC, hg⟩ := H
  simp [World.frozen?, hC]
theorem PixI.lt (H : PixI w b h wd k P) : b < w.heap.size := by
  obtain ⟨C, hC, _⟩ := H
  exact lt_of_block hC
theorem PixI.store (H : PixI w b h wd k P) {r c ch i : Nat} (hr : r < h) (hc : c < wd) (hch : ch < k) (hi : i = r * (wd * k) + c * k + ch) (v : Int) :
    PixI (w.setCell ⟨b, i, none⟩ (.int .u8 v)) b h wd k (fun r' c' ch' => if r' = r ∧ c' = c ∧ ch' = ch then v else P r' c' ch') := by
  obtain ⟨C, hC, hg⟩ := H
  have hlt := lt_of_block hC
  have hci : i < C.size := by
    rcases Nat.lt_or_ge i C.size with h' | h'
    · exact h'
    · have := hg r c ch hr hc hch; rw [← hi] at this; simp [Array.getElem?_eq_none h'] at this
  have h' : w.heap[b] = .cells C 5 (0, 0) := by simpa [Array.getElem?_eq_getElem hlt] using hC
  refine ⟨C.setIfInBounds i (.int .u8 v), ?_, ?_⟩
  · show (w.heap.modify b _)[b]? = _
    rw [Array.getElem?_eq_getElem (by simpa using hlt), Array.getElem_modify_self, h']
    rfl
  · intro r' c' ch' hr' hc' hch'
    rw [Array.getElem?_setIfInBounds]
    by_cases e : i = r' * (wd * k) + c' * k + ch'
    · rw [if_pos e, if_pos hci]
      obtain ⟨e1, e2, e3⟩ := pix_inj hc hch hc' hch' (hi.symm.trans e)
      dsimp only; rw [if_pos ⟨e1.symm, e2.symm, e3.symm⟩]
    · rw [if_neg e, hg r' c' ch' hr' hc' hch']; dsimp only; rw [if_neg]
      rintro ⟨rfl, rfl, rfl⟩
      exact e hi
theorem PixI.alloc (H : PixI w b h wd k P) (o : Obj) : PixI (w.alloc o) b h wd k P := by
  obtain ⟨C, hC, hg⟩ := H
  exact ⟨C, by rw [Below.heap_alloc _ _ _ (lt_of_block hC)]; exact hC, hg⟩
theorem PixI.drewN (H : PixI w b h wd k P) (n : Nat) : PixI (w.drewN n) b h wd k P := H
theorem PixI.drew (H : PixI w b h wd k P) : PixI w.drew b h wd k P := H
theorem PixI.kept {w' : World} (H : PixI w b h wd k P) (hb : w'.heap[b]? = w.heap[b]?) : PixI w' b h wd k P := by
  obtain ⟨C, hC, hg⟩ := H
  exact ⟨C, hb.trans hC, hg⟩
theorem PixI.congr {P' : Nat → Nat → Nat → Int} (H : PixI w b h wd k P) (e : ∀ r c ch, r < h → c < wd → ch < k → P r c ch = P' r c ch) : PixI w b h wd k P' := by
  obtain ⟨C, hC, hg⟩ := H
  exact ⟨C, hC, fun r c ch hr hc hch => by rw [hg r c ch hr hc hch, e r c ch hr hc hch]⟩
end

theorem gb_refl (w : World) (r : Option Nat) : w.grownBy w r := ⟨rfl, rfl, rfl, Nat.le_refl _, fun _ _ _ => rfl⟩
theorem gb_trans {a b c : World} {r : Option Nat} (h : a.grownBy b r) (k : b.grownBy c r) : a.grownBy c r :=
  ⟨k.os.trans h.os, k.tape.trans h.tape, k.output.trans h.output, Nat.le_trans h.size k.size, fun i hi hr => (k.block i (Nat.lt_of_lt_of_le hi h.size) hr).trans (h.block i hi hr)⟩
theorem gb_drewN {a w : World} {r : Option Nat} (h : a.grownBy w r) (n : Nat) : a.grownBy (w.drewN n) r := ⟨h.os, h.tape, h.output, h.size, h.block⟩
theorem gb_drew {a w : World} {r : Option Nat} (h : a.grownBy w r) : a.grownBy w.drew r := ⟨h.os, h.tape, h.output, h.size, h.block⟩
theorem gb_alloc {a w : World} {r : Option Nat} (h : a.grownBy w r) (o : Obj) : a.grownBy (w.alloc o) r :=
  gb_trans h (World.grownBy_alloc w o r)
theorem gb_setCell {a w : World} {r : Option Nat} (h : a.grownBy w r) {p : Addr} (hp : some p.block = r ∨ a.heap.size ≤ p.block) (u : Value) : a.grownBy (w.setCell p u) r :=
  ⟨h.os, h.tape, h.output, by simpa [World.setCell] using h.size, fun i hi hne => (Below.heap_setCell w p u i (by
    rintro rfl
    rcases hp with hp | hp
    · exact hne hp
    · omega)).trans (h.block i hi hne)⟩
theorem gb_weak {a w : World} (h : a.grownBy w none) (r : Option Nat) : a.grownBy w r := ⟨h.os, h.tape, h.output, h.size, fun i hi _ => h.block i hi (by simp)⟩
theorem gb_trans' {a b c : World} {r : Option Nat} (h : a.grownBy b r) (k : b.grownBy c none) : a.grownBy c r := gb_trans h (gb_weak k r)
theorem gb_cell0 {a w : World} (h : a.grownBy w none) {p : Addr} (hp : p.block < a.heap.size) : w.cell? p = a.cell? p :=
  World.cell?_of_block (h.block p.block hp (by simp))
theorem gb_block0 {a w : World} {b : Nat} (h : a.grownBy w none) (hp : b < a.heap.size) : w.heap[b]? = a.heap[b]? := h.block b hp (by simp)
theorem gb_free0 {a w : World} (h : a.grownBy w none) {p : Addr} (hp : p.block < a.heap.size) : w.frozen? p = a.frozen? p :=
  World.frozen?_of_block (h.block p.block hp (by simp))
/-- what the walk takes from 'nothing old has changed' -/
theorem gb_rules {a w : World} (h : a.grownBy w none) : (∀ b o, b < a.heap.size → w.cell? ⟨b, o, none⟩ = a.cell? ⟨b, o, none⟩) ∧ (∀ b o, b < a.heap.size → w.frozen? ⟨b, o, none⟩ = a.frozen? ⟨b, o, none⟩) :=
  ⟨fun b o hb => gb_cell0 h (p := ⟨b, o, none⟩) hb, fun b o hb => gb_free0 h (p := ⟨b, o, none⟩) hb⟩
theorem gb_cell {a w : World} {g : Nat} (h : a.grownBy w (some g)) {p : Addr} (hp : p.block < a.heap.size) (hne : p.block ≠ g) : w.cell? p = a.cell? p :=
  World.cell?_of_block (h.block p.block hp (fun e => hne (by injection e)))
theorem gb_block {a w : World} {g b : Nat} (h : a.grownBy w (some g)) (hp : b < a.heap.size) (hne : b ≠ g) : w.heap[b]? = a.heap[b]? :=
  h.block b hp (fun e => hne (by injection e))
theorem cell_at {w : World} {b i : Nat} {C : Array Value} {v : Value} {t : TypeId} {f : Nat × Nat} (h : w.heap[b]? = some (.cells C t f)) (hv : C[i]? = some v) : w.cell? ⟨b, i, none⟩ = some v := by
  simp [World.cell?, h, hv]

open Classical in
/-- where 'dn' holds: F; else P -/
noncomputable def pt (dn : Nat → Nat → Prop) (F P : Nat → Nat → Nat → Int) : Nat → Nat → Nat → Int := fun r c ch => if dn r c then F r c ch else P r c ch
theorem pt_pos {dn : Nat → Nat → Prop} {F P : Nat → Nat → Nat → Int} {r c : Nat} (h : dn r c) (ch : Nat) : pt dn F P r c ch = F r c ch := if_pos h
theorem pt_neg {dn : Nat → Nat → Prop} {F P : Nat → Nat → Nat → Int} {r c : Nat} (h : ¬ dn r c) (ch : Nat) : pt dn F P r c ch = P r c ch := if_neg h
theorem pt_iff {dn dn' : Nat → Nat → Prop} {F P : Nat → Nat → Nat → Int} {r c : Nat} (h : dn r c ↔ dn' r c) (ch : Nat) : pt dn F P r c ch = pt dn' F P r c ch := by
  by_cases e : dn r c
  · rw [pt_pos e, pt_pos (h.1 e)]
  · rw [pt_neg e, pt_neg (fun e' => e (h.2 e'))]

/-- the rectangle -/
def inR (rx xe ry ye r c : Nat) : Prop := rx ≤ c ∧ c < xe ∧ ry ≤ r ∧ r < ye
/-- j rows from above are done, and i pixels of the next -/
def fw (rx xe ry j i r c : Nat) : Prop := rx ≤ c ∧ c < xe ∧ ry ≤ r ∧ (r < ry + j ∨ (r = ry + j ∧ c < rx + i))
/-- j rows from below are done, and i pixels of the next, from the right -/
def bw (rx xe ry ye j i r c : Nat) : Prop := rx ≤ c ∧ c < xe ∧ ry ≤ r ∧ r < ye ∧ (ye ≤ r + j ∨ (r + j + 1 = ye ∧ xe ≤ c + i))

section
variable {w : World} {b h wd : Nat} {F P : Nat → Nat → Nat → Int} {dn dn' : Nat → Nat → Prop}
theorem pt_start {k : Nat} (H : PixI w b h wd k P) (hd : ∀ r c, r < h → c < wd → ¬ dn r c) : PixI w b h wd k (pt dn F P) :=
  H.congr fun r c ch hr hc _ => (pt_neg (hd r c hr hc) ch).symm
theorem pt_turn {k : Nat} (H : PixI w b h wd k (pt dn F P)) (hd : ∀ r c, r < h → c < wd → (dn r c ↔ dn' r c)) : PixI w b h wd k (pt dn' F P) :=
  H.congr fun r c ch hr hc _ => pt_iff (hd r c hr hc) ch
theorem pix4 (H : PixI w b h wd 4 (pt dn F P)) {r c k0 : Nat} (hr : r < h) (hc : c < wd) (hk : k0 = r * (wd * 4) + c * 4)
    (hd : ∀ r' c', dn' r' c' ↔ (dn r' c' ∨ (r' = r ∧ c' = c))) {v0 v1 v2 v3 : Int} (h0 : v0 = F r c 0) (h1 : v1 = F r c 1) (h2 : v2 = F r c 2) (h3 : v3 = F r c 3) :
    PixI ((((w.setCell ⟨b, k0, none⟩ (.int .u8 v0)).setCell ⟨b, k0 + 1, none⟩ (.int .u8 v1)).setCell ⟨b, k0 + 2, none⟩ (.int .u8 v2)).setCell ⟨b, k0 + 3, none⟩ (.int .u8 v3)) b h wd 4 (pt dn' F P) := by
  have H1 := (((H.store (r := r) (c := c) (ch := 0) (i := k0) hr hc (by omega) (by omega) v0).store (r := r) (c := c) (ch := 1) (i := k0 + 1) hr hc (by omega) (by omega) v1).store (r := r) (c := c) (ch := 2) (i := k0 + 2) hr hc (by omega) (by omega) v2).store (r := r) (c := c) (ch := 3) (i := k0 + 3) hr hc (by omega) (by omega) v3
  refine H1.congr fun r' c' ch' _ _ hch => ?_
  by_cases e : r' = r ∧ c' = c
  · obtain ⟨rfl, rfl⟩ := e
    rw [pt_pos ((hd _ _).2 (.inr ⟨rfl, rfl⟩))]
    have : ch' = 0 ∨ ch' = 1 ∨ ch' = 2 ∨ ch' = 3 := by omega
    rcases this with rfl | rfl | rfl | rfl <;> simp [h0, h1, h2, h3]
  · have hd' : dn' r' c' ↔ dn r' c' := by rw [hd]; exact ⟨fun h => h.resolve_right e, .inl⟩
    rw [pt_iff hd']
    rw [if_neg (fun h => e ⟨h.1, h.2.1⟩), if_neg (fun h => e ⟨h.1, h.2.1⟩), if_neg (fun h => e ⟨h.1, h.2.1⟩), if_neg (fun h => e ⟨h.1, h.2.1⟩)]
theorem pix1 (H : PixI w b h wd 1 (pt dn F P)) {r c k0 : Nat} (hr : r < h) (hc : c < wd) (hk : k0 = r * (wd * 1) + c * 1)
    (hd : ∀ r' c', dn' r' c' ↔ (dn r' c' ∨ (r' = r ∧ c' = c))) {v0 : Int} (h0 : v0 = F r c 0) :
    PixI (w.setCell ⟨b, k0, none⟩ (.int .u8 v0)) b h wd 1 (pt dn' F P) := by
  have H1 := H.store (r := r) (c := c) (ch := 0) (i := k0) hr hc (by omega) (by omega) v0
  refine H1.congr fun r' c' ch' _ _ hch => ?_
  by_cases e : r' = r ∧ c' = c
  · obtain ⟨rfl, rfl⟩ := e
    rw [pt_pos ((hd _ _).2 (.inr ⟨rfl, rfl⟩))]
    obtain rfl : ch' = 0 := by omega
    simp [h0]
  · have hd' : dn' r' c' ↔ dn r' c' := by rw [hd]; exact ⟨fun h => h.resolve_right e, .inl⟩
    rw [pt_iff hd']
    rw [if_neg (fun h => e ⟨h.1, h.2.1⟩)]
theorem pix8 (H : PixI w b h wd 8 (pt dn F P)) {r c k0 : Nat} (hr : r < h) (hc : c < wd) (hk : k0 = r * (wd * 8) + c * 8)
    (hd : ∀ r' c', dn' r' c' ↔ (dn r' c' ∨ (r' = r ∧ c' = c))) {v0 v1 v2 v3 v4 v5 v6 v7 : Int} (h0 : v0 = F r c 0) (h1 : v1 = F r c 1) (h2 : v2 = F r c 2) (h3 : v3 = F r c 3)
    (h4 : v4 = F r c 4) (h5 : v5 = F r c 5) (h6 : v6 = F r c 6) (h7 : v7 = F r c 7) :
    PixI ((((((((w.setCell ⟨b, k0, none⟩ (.int .u8 v0)).setCell ⟨b, k0 + 1, none⟩ (.int .u8 v1)).setCell ⟨b, k0 + 2, none⟩ (.int .u8 v2)).setCell ⟨b, k0 + 3, none⟩ (.int .u8 v3)).setCell ⟨b, k0 + 4, none⟩ (.int .u8 v4)).setCell ⟨b, k0 + 5, none⟩ (.int .u8 v5)).setCell ⟨b, k0 + 6, none⟩ (.int .u8 v6)).setCell ⟨b, k0 + 7, none⟩ (.int .u8 v7)) b h wd 8 (pt dn' F P) := by
  have H1 := (((H.store (r := r) (c := c) (ch := 0) (i := k0) hr hc (by omega) (by omega) v0).store (r := r) (c := c) (ch := 1) (i := k0 + 1) hr hc (by omega) (by omega) v1).store (r := r) (c := c) (ch := 2) (i := k0 + 2) hr hc (by omega) (by omega) v2).store (r := r) (c := c) (ch := 3) (i := k0 + 3) hr hc (by omega) (by omega) v3
  have H2 := (((H1.store (r := r) (c := c) (ch := 4) (i := k0 + 4) hr hc (by omega) (by omega) v4).store (r := r) (c := c) (ch := 5) (i := k0 + 5) hr hc (by omega) (by omega) v5).store (r := r) (c := c) (ch := 6) (i := k0 + 6) hr hc (by omega) (by omega) v6).store (r := r) (c := c) (ch := 7) (i := k0 + 7) hr hc (by omega) (by omega) v7
  refine H2.congr fun r' c' ch' _ _ hch => ?_
  by_cases e : r' = r ∧ c' = c
  · obtain ⟨rfl, rfl⟩ := e
    rw [pt_pos ((hd _ _).2 (.inr ⟨rfl, rfl⟩))]
    have : ch' = 0 ∨ ch' = 1 ∨ ch' = 2 ∨ ch' = 3 ∨ ch' = 4 ∨ ch' = 5 ∨ ch' = 6 ∨ ch' = 7 := by omega
    rcases this with rfl | rfl | rfl | rfl | rfl | rfl | rfl | rfl <;> simp [h0, h1, h2, h3, h4, h5, h6, h7]
  · have hd' : dn' r' c' ↔ dn r' c' := by rw [hd]; exact ⟨fun h => h.resolve_right e, .inl⟩
    rw [pt_iff hd']
    rw [if_neg (fun h => e ⟨h.1, h.2.1⟩), if_neg (fun h => e ⟨h.1, h.2.1⟩), if_neg (fun h => e ⟨h.1, h.2.1⟩), if_neg (fun h => e ⟨h.1, h.2.1⟩),
      if_neg (fun h => e ⟨h.1, h.2.1⟩), if_neg (fun h => e ⟨h.1, h.2.1⟩), if_neg (fun h => e ⟨h.1, h.2.1⟩), if_neg (fun h => e ⟨h.1, h.2.1⟩)]
end
end Go.Proofs.YtgjpohmjkhgpfaaGreat
