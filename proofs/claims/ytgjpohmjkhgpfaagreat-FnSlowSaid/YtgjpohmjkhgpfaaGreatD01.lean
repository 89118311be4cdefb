/- Parts of the proof: what the functions of the package and of the reference do (B, M, D, W1, W3, W2, W4). No condition but those that each theorem names. -/
import Derived.Test.YtgjpohmjkhgpfaaGreatProg
import Derived.WalkKit
import Derived.Outline
import Derived.Deep.QuietTactic
import Derived.BigQuiet
import Derived.Laws.AppendOwn
import Derived.OneCell
import Derived.Deep.DeepCutAuto
import Derived.Deep.CutBlock
import Derived.KernelRfl
import Derived.Laws.BitsAllLaws
set_option linter.unusedSimpArgs false
set_option linter.unusedVariables false
namespace Go.Proofs.YtgjpohmjkhgpfaaGreat
open Go.RowKit

theorem hid {p : Prop} (h : p) : Hid p := h

/-- block b holds an image's pixels: h rows, wd columns, k bytes a pixel; P r c ch: the byte -/
def PixI (w : World) (b h wd k : Nat) (P : Nat → Nat → Nat → Int) : Prop :=
  ∃ C, w.heap[b]? = some (.cells C 5 (0, 0)) ∧ ∀ r c ch, r < h → c < wd → ch < k → C[r * (wd * k) + c * k + ch]? = some (.int .u8 (P r c ch))

theorem pix_bound {h wd k r c ch : Nat} (hr : r < h) (hc : c < wd) (hch : ch < k) : r * (wd * k) + c * k + ch < h * (wd * k) := by
  have h1 : r * (wd * k) + wd * k ≤ h * (wd * k) := by
    have := Nat.mul_le_mul_right (wd * k) (show r + 1 ≤ h by omega)
    rw [Nat.add_mul, Nat.one_mul] at this; exact this
  have h2 : c * k + k ≤ wd * k := by
    have := Nat.mul_le_mul_right k (show c + 1 ≤ wd by omega)
    rw [Nat.add_mul, Nat.one_mul] at this; exact this
  omega
theorem pix_col {wd k c ch : Nat} (hc : c < wd) (hch : ch < k) : c * k + ch < wd * k := by
  have := Nat.mul_le_mul_right k (show c + 1 ≤ wd by omega)
  rw [Nat.add_mul, Nat.one_mul] at this; omega
theorem divmod_inj {n q r q' r' : Nat} (hr : r < n) (hr' : r' < n) (h : q * n + r = q' * n + r') : q = q' ∧ r = r' := by
  have h1 : (q * n + r) / n = q := by rw [Nat.mul_comm, Nat.mul_add_div (by omega), Nat.div_eq_of_lt hr]; rfl
  have h2 : (q' * n + r') / n = q' := by rw [Nat.mul_comm, Nat.mul_add_div (by omega), Nat.div_eq_of_lt hr']; rfl
  have : q = q' := by rw [← h1, ← h2, h]
  subst this
  exact ⟨rfl, by omega⟩
theorem pix_inj {wd k r c ch r' c' ch' : Nat} (hc : c < wd) (hch : ch < k) (hc' : c' < wd) (hch' : ch' < k)
    (h : r * (wd * k) + c * k + ch = r' * (wd * k) + c' * k + ch') : r = r' ∧ c = c' ∧ ch = ch' := by
  obtain ⟨e1, e2⟩ := divmod_inj (pix_col hc hch) (pix_col hc' hch') (by omega : r * (wd * k) + (c * k + ch) = r' * (wd * k) + (c' * k + ch'))
  obtain ⟨e3, e4⟩ := divmod_inj hch hch' e2
  exact ⟨e1, e3, e4⟩

section
variable {w : World} {b h wd k : Nat} {P : Nat → Nat → Nat → Int}
theorem PixI.cell (H : PixI w b h wd k P) {r c ch i : Nat} (hr : r < h) (hc : c < wd) (hch : ch < k) (hi : i = r * (wd * k) + c * k + ch) :
    w.cell? ⟨b, i, none⟩ = some (.int .u8 (P r c ch)) := by
  obtain ⟨C, hC, hg⟩ := H
  subst hi
  simp [World.cell?, hC, hg r c ch hr hc hch]
theorem PixI.free (H : PixI w b h wd k P) (i : Nat) : w.frozen? ⟨b, i, none⟩ = false := by
  obtain ⟨C, hC, hg⟩ := H
  simp [World.frozen?, hC]
theorem PixI.lt (H : PixI w b h wd k P) : b < w.heap.size := by
  obtain ⟨C, hC, _⟩ := H
  exact lt_of_block hC
theorem PixI.store (H : PixI w b h wd k P) {r c ch i : Nat} (hr : r < h) (hc : c < wd) (hch : ch < k) (hi : i = r * (wd * k) + c * k + ch) (v : Int) :
    PixI (w.setCell ⟨b, i, none⟩ (.int .u8 v)) b h wd k (fun r' c' ch' => if r' = r ∧ c' = c ∧ ch' = ch then v else P r' c' ch') := by
  obtain ⟨C, hC, hg⟩ := H
  have hlt := lt_of_block hC
  have hci : i < C.size := by
    rcases Nat.lt_or_ge i C.size with h' | h'
    · exact h'
    · have := hg r c ch hr hc hch; rw [← hi] at this; simp [Array.getElem?_eq_none h'] at this
  have h' : w.heap[b] = .cells C 5 (0, 0) := by simpa [Array.getElem?_eq_getElem hlt] using hC
  refine ⟨C.setIfInBounds i (.int .u8 v), ?_, ?_⟩
  · show (w.heap.modify b _)[b]? = _
    rw [Array.getElem?_eq_getElem (by simpa using hlt), Array.getElem_modify_self, h']
    rfl
  · intro r' c' ch' hr' hc' hch'
    rw [Array.getElem?_setIfInBounds]
    by_cases e : i = r' * (wd * k) + c' * k + ch'
    · rw [if_pos e, if_pos hci]
      obtain ⟨e1, e2, e3⟩ := pix_inj hc hch hc' hch' (hi.symm.trans e)
      dsimp only; rw [if_pos ⟨e1.symm, e2.symm, e3.symm⟩]
    · rw [if_neg e, hg r' c' ch' hr' hc' hch']; dsimp only; rw [if_neg]
      rintro ⟨rfl, rfl, rfl⟩
      exact e hi
theorem PixI.alloc (H : PixI w b h wd k P) (o : Obj) : PixI (w.alloc o) b h wd k P := by
  obtain ⟨C, hC, hg⟩ := H
  exact ⟨C, by rw [Below.heap_alloc _ _ _ (lt_of_block hC)]; exact hC, hg⟩
theorem PixI.drewN (H : PixI w b h wd k P) (n : Nat) : PixI (w.drewN n) b h wd k P := H
theorem PixI.drew (H : PixI w b h wd k P) : PixI w.drew b h wd k P := H
theorem PixI.kept {w' : World} (H : PixI w b h wd k P) (hb : w'.heap[b]? = w.heap[b]?) : PixI w' b h wd k P := by
  obtain ⟨C, hC, hg⟩ := H
  exact ⟨C, hb.trans hC, hg⟩
theorem PixI.congr {P' : Nat → Nat → Nat → Int} (H : PixI w b h wd k P) (e : ∀ r c ch, r < h → c < wd → ch < k → P r c ch = P' r c ch) : PixI w b h wd k P' := by
  obtain ⟨C, hC, hg⟩ := H
  exact ⟨C, hC, fun r c ch hr hc hch => by rw [hg r c ch hr hc hch, e r c ch hr hc hch]⟩
end

theorem gb_refl (w : World) (r : Option Nat) : w.grownBy w r := ⟨rfl, rfl, rfl, Nat.le_refl _, fun _ _ _ => rfl⟩
theorem gb_trans {a b c : World} {r : Option Nat} (h : a.grownBy b r) (k : b.grownBy c r) : a.grownBy c r :=
  ⟨k.os.trans h.os, k.tape.trans h.tape, k.output.trans h.output, Nat.le_trans h.size k.size, fun i hi hr => (k.block i (Nat.lt_of_lt_of_le hi h.size) hr).trans (h.block i hi hr)⟩
theorem gb_drewN {a w : World} {r : Option Nat} (h : a.grownBy w r) (n : Nat) : a.grownBy (w.drewN n) r := ⟨h.os, h.tape, h.output, h.size, h.block⟩
theorem gb_drew {a w : World} {r : Option Nat} (h : a.grownBy w r) : a.grownBy w.drew r := ⟨h.os, h.tape, h.output, h.size, h.block⟩
theorem gb_alloc {a w : World} {r : Option Nat} (h : a.grownBy w r) (o : Obj) : a.grownBy (w.alloc o) r :=
  gb_trans h (World.grownBy_alloc w o r)
theorem gb_setCell {a w : World} {r : Option Nat} (h : a.grownBy w r) {p : Addr} (hp : some p.block = r ∨ a.heap.size ≤ p.block) (u : Value) : a.grownBy (w.setCell p u) r :=
  ⟨h.os, h.tape, h.output, by simpa [World.setCell] using h.size, fun i hi hne => (Below.heap_setCell w p u i (by
    rintro rfl
    rcases hp with hp | hp
    · exact hne hp
    · omega)).trans (h.block i hi hne)⟩
theorem gb_weak {a w : World} (h : a.grownBy w none) (r : Option Nat) : a.grownBy w r := ⟨h.os, h.tape, h.output, h.size, fun i hi _ => h.block i hi (by simp)⟩
theorem gb_trans' {a b c : World} {r : Option Nat} (h : a.grownBy b r) (k : b.grownBy c none) : a.grownBy c r := gb_trans h (gb_weak k r)
theorem gb_cell0 {a w : World} (h : a.grownBy w none) {p : Addr} (hp : p.block < a.heap.size) : w.cell? p = a.cell? p :=
  World.cell?_of_block (h.block p.block hp (by simp))
theorem gb_block0 {a w : World} {b : Nat} (h : a.grownBy w none) (hp : b < a.heap.size) : w.heap[b]? = a.heap[b]? := h.block b hp (by simp)
theorem gb_free0 {a w : World} (h : a.grownBy w none) {p : Addr} (hp : p.block < a.heap.size) : w.frozen? p = a.frozen? p :=
  World.frozen?_of_block (h.block p.block hp (by simp))
/-- what the walk takes from 'nothing old has changed' -/
theorem gb_rules {a w : World} (h : a.grownBy w none) : (∀ b o, b < a.heap.size → w.cell? ⟨b, o, none⟩ = a.cell? ⟨b, o, none⟩) ∧ (∀ b o, b < a.heap.size → w.frozen? ⟨b, o, none⟩ = a.frozen? ⟨b, o, none⟩) :=
  ⟨fun b o hb => gb_cell0 h (p := ⟨b, o, none⟩) hb, fun b o hb => gb_free0 h (p := ⟨b, o, none⟩) hb⟩
theorem gb_cell {a w : World} {g : Nat} (h : a.grownBy w (some g)) {p : Addr} (hp : p.block < a.heap.size) (hne : p.block ≠ g) : w.cell? p = a.cell? p :=
  World.cell?_of_block (h.block p.block hp (fun e => hne (by injection e)))
theorem gb_block {a w : World} {g b : Nat} (h : a.grownBy w (some g)) (hp : b < a.heap.size) (hne : b ≠ g) : w.heap[b]? = a.heap[b]? :=
  h.block b hp (fun e => hne (by injection e))
theorem cell_at {w : World} {b i : Nat} {C : Array Value} {v : Value} {t : TypeId} {f : Nat × Nat} (h : w.heap[b]? = some (.cells C t f)) (hv : C[i]? = some v) : w.cell? ⟨b, i, none⟩ = some v := by
  simp [World.cell?, h, hv]

open Classical in
/-- where 'dn' holds: F; else P -/
noncomputable def pt (dn : Nat → Nat → Prop) (F P : Nat → Nat → Nat → Int) : Nat → Nat → Nat → Int := fun r c ch => if dn r c then F r c ch else P r c ch
theorem pt_pos {dn : Nat → Nat → Prop} {F P : Nat → Nat → Nat → Int} {r c : Nat} (h : dn r c) (ch : Nat) : pt dn F P r c ch = F r c ch := if_pos h
theorem pt_neg {dn : Nat → Nat → Prop} {F P : Nat → Nat → Nat → Int} {r c : Nat} (h : ¬ dn r c) (ch : Nat) : pt dn F P r c ch = P r c ch := if_neg h
theorem pt_iff {dn dn' : Nat → Nat → Prop} {F P : Nat → Nat → Nat → Int} {r c : Nat} (h : dn r c ↔ dn' r c) (ch : Nat) : pt dn F P r c ch = pt dn' F P r c ch := by
  by_cases e : dn r c
  · rw [pt_pos e, pt_pos (h.1 e)]
  · rw [pt_neg e, pt_neg (fun e' => e (h.2 e'))]

/-- the rectangle -/
def inR (rx xe ry ye r c : Nat) : Prop := rx ≤ c ∧ c < xe ∧ ry ≤ r ∧ r < ye
/-- j rows from above are done, and i pixels of the next -/
def fw (rx xe ry j i r c : Nat) : Prop := rx ≤ c ∧ c < xe ∧ ry ≤ r ∧ (r < ry + j ∨ (r = ry + j ∧ c < rx + i))
/-- j rows from below are done, and i pixels of the next, from the right -/
def bw (rx xe ry ye j i r c : Nat) : Prop := rx ≤ c ∧ c < xe ∧ ry ≤ r ∧ r < ye ∧ (ye ≤ r + j ∨ (r + j + 1 = ye ∧ xe ≤ c + i))

section
variable {w : World} {b h wd : Nat} {F P : Nat → Nat → Nat → Int} {dn dn' : Nat → Nat → Prop}
theorem pt_start {k : Nat} (H : PixI w b h wd k P) (hd : ∀ r c, r < h → c < wd → ¬ dn r c) : PixI w b h wd k (pt dn F P) :=
  H.congr fun r c ch hr hc _ => (pt_neg (hd r c hr hc) ch).symm
theorem pt_turn {k : Nat} (H : PixI w b h wd k (pt dn F P)) (hd : ∀ r c, r < h → c < wd → (dn r c ↔ dn' r c)) : PixI w b h wd k (pt dn' F P) :=
  H.congr fun r c ch hr hc _ => pt_iff (hd r c hr hc) ch
theorem pix4 (H : PixI w b h wd 4 (pt dn F P)) {r c k0 : Nat} (hr : r < h) (hc : c < wd) (hk : k0 = r * (wd * 4) + c * 4)
    (hd : ∀ r' c', dn' r' c' ↔ (dn r' c' ∨ (r' = r ∧ c' = c))) {v0 v1 v2 v3 : Int} (h0 : v0 = F r c 0) (h1 : v1 = F r c 1) (h2 : v2 = F r c 2) (h3 : v3 = F r c 3) :
    PixI ((((w.setCell ⟨b, k0, none⟩ (.int .u8 v0)).setCell ⟨b, k0 + 1, none⟩ (.int .u8 v1)).setCell ⟨b, k0 + 2, none⟩ (.int .u8 v2)).setCell ⟨b, k0 + 3, none⟩ (.int .u8 v3)) b h wd 4 (pt dn' F P) := by
  have H1 := (((H.store (r := r) (c := c) (ch := 0) (i := k0) hr hc (by omega) (by omega) v0).store (r := r) (c := c) (ch := 1) (i := k0 + 1) hr hc (by omega) (by omega) v1).store (r := r) (c := c) (ch := 2) (i := k0 + 2) hr hc (by omega) (by omega) v2).store (r := r) (c := c) (ch := 3) (i := k0 + 3) hr hc (by omega) (by omega) v3
  refine H1.congr fun r' c' ch' _ _ hch => ?_
  by_cases e : r' = r ∧ c' = c
  · obtain ⟨rfl, rfl⟩ := e
    rw [pt_pos ((hd _ _).2 (.inr ⟨rfl, rfl⟩))]
    have : ch' = 0 ∨ ch' = 1 ∨ ch' = 2 ∨ ch' = 3 := by omega
    rcases this with rfl | rfl | rfl | rfl <;> simp [h0, h1, h2, h3]
  · have hd' : dn' r' c' ↔ dn r' c' := by rw [hd]; exact ⟨fun h => h.resolve_right e, .inl⟩
    rw [pt_iff hd']
    rw [if_neg (fun h => e ⟨h.1, h.2.1⟩), if_neg (fun h => e ⟨h.1, h.2.1⟩), if_neg (fun h => e ⟨h.1, h.2.1⟩), if_neg (fun h => e ⟨h.1, h.2.1⟩)]
theorem pix1 (H : PixI w b h wd 1 (pt dn F P)) {r c k0 : Nat} (hr : r < h) (hc : c < wd) (hk : k0 = r * (wd * 1) + c * 1)
    (hd : ∀ r' c', dn' r' c' ↔ (dn r' c' ∨ (r' = r ∧ c' = c))) {v0 : Int} (h0 : v0 = F r c 0) :
    PixI (w.setCell ⟨b, k0, none⟩ (.int .u8 v0)) b h wd 1 (pt dn' F P) := by
  have H1 := H.store (r := r) (c := c) (ch := 0) (i := k0) hr hc (by omega) (by omega) v0
  refine H1.congr fun r' c' ch' _ _ hch => ?_
  by_cases e : r' = r ∧ c' = c
  · obtain ⟨rfl, rfl⟩ := e
    rw [pt_pos ((hd _ _).2 (.inr ⟨rfl, rfl⟩))]
    obtain rfl : ch' = 0 := by omega
    simp [h0]
  · have hd' : dn' r' c' ↔ dn r' c' := by rw [hd]; exact ⟨fun h => h.resolve_right e, .inl⟩
    rw [pt_iff hd']
    rw [if_neg (fun h => e ⟨h.1, h.2.1⟩)]
theorem pix8 (H : PixI w b h wd 8 (pt dn F P)) {r c k0 : Nat} (hr : r < h) (hc : c < wd) (hk : k0 = r * (wd * 8) + c * 8)
    (hd : ∀ r' c', dn' r' c' ↔ (dn r' c' ∨ (r' = r ∧ c' = c))) {v0 v1 v2 v3 v4 v5 v6 v7 : Int} (h0 : v0 = F r c 0) (h1 : v1 = F r c 1) (h2 : v2 = F r c 2) (h3 : v3 = F r c 3)
    (h4 : v4 = F r c 4) (h5 : v5 = F r c 5) (h6 : v6 = F r c 6) (h7 : v7 = F r c 7) :
    PixI ((((((((w.setCell ⟨b, k0, none⟩ (.int .u8 v0)).setCell ⟨b, k0 + 1, none⟩ (.int .u8 v1)).setCell ⟨b, k0 + 2, none⟩ (.int .u8 v2)).setCell ⟨b, k0 + 3, none⟩ (.int .u8 v3)).setCell ⟨b, k0 + 4, none⟩ (.int .u8 v4)).setCell ⟨b, k0 + 5, none⟩ (.int .u8 v5)).setCell ⟨b, k0 + 6, none⟩ (.int .u8 v6)).setCell ⟨b, k0 + 7, none⟩ (.int .u8 v7)) b h wd 8 (pt dn' F P) := by
  have H1 := (((H.store (r := r) (c := c) (ch := 0) (i := k0) hr hc (by omega) (by omega) v0).store (r := r) (c := c) (ch := 1) (i := k0 + 1) hr hc (by omega) (by omega) v1).store (r := r) (c := c) (ch := 2) (i := k0 + 2) hr hc (by omega) (by omega) v2).store (r := r) (c := c) (ch := 3) (i := k0 + 3) hr hc (by omega) (by omega) v3
  have H2 := (((H1.store (r := r) (c := c) (ch := 4) (i := k0 + 4) hr hc (by omega) (by omega) v4).store (r := r) (c := c) (ch := 5) (i := k0 + 5) hr hc (by omega) (by omega) v5).store (r := r) (c := c) (ch := 6) (i := k0 + 6) hr hc (by omega) (by omega) v6).store (r := r) (c := c) (ch := 7) (i := k0 + 7) hr hc (by omega) (by omega) v7
  refine H2.congr fun r' c' ch' _ _ hch => ?_
  by_cases e : r' = r ∧ c' = c
  · obtain ⟨rfl, rfl⟩ := e
    rw [pt_pos ((hd _ _).2 (.inr ⟨rfl, rfl⟩))]
    have : ch' = 0 ∨ ch' = 1 ∨ ch' = 2 ∨ ch' = 3 ∨ ch' = 4 ∨ ch' = 5 ∨ ch' = 6 ∨ ch' = 7 := by omega
    rcases this with rfl | rfl | rfl | rfl | rfl | rfl | rfl | rfl <;> simp [h0, h1, h2, h3, h4, h5, h6, h7]
  · have hd' : dn' r' c' ↔ dn r' c' := by rw [hd]; exact ⟨fun h => h.resolve_right e, .inl⟩
    rw [pt_iff hd']
    rw [if_neg (fun h => e ⟨h.1, h.2.1⟩), if_neg (fun h => e ⟨h.1, h.2.1⟩), if_neg (fun h => e ⟨h.1, h.2.1⟩), if_neg (fun h => e ⟨h.1, h.2.1⟩),
      if_neg (fun h => e ⟨h.1, h.2.1⟩), if_neg (fun h => e ⟨h.1, h.2.1⟩), if_neg (fun h => e ⟨h.1, h.2.1⟩), if_neg (fun h => e ⟨h.1, h.2.1⟩)]
end
end Go.Proofs.YtgjpohmjkhgpfaaGreat

namespace Go.Proofs.YtgjpohmjkhgpfaaGreat
/-- the color of a pixel of kind k whose bytes are p: red, green, blue, alpha (0 .. 3), 0 to 65535 -/
def cl (k : Nat) (p : Nat → Int) (ch : Nat) : Int :=
  match k with
  | 0 => p ch * 257
  | 1 => if ch = 3 then p 3 * 257 else p ch * 257 * p 3 / 255
  | 2 => p 0 * 257
  | 3 => if ch = 3 then 65535 else p 0 * 257
  | 5 => if ch = 3 then 65535 else (65535 - p ch * 257) * (65535 - p 3 * 257) / 65535
  | _ => p (2 * ch) * 256 + p (2 * ch + 1)
/-- composed, without a mask (op 0: over; else: in its place) -/
def mix0 (op : Nat) (d s sa : Int) : Int := if op = 0 then d * (65535 - sa) / 65535 + s else s
/-- composed, with a mask's alpha -/
def mixM (op : Nat) (d s sa ma : Int) : Int := if op = 0 then (d * (65535 - sa * ma / 65535) + s * ma) / 65535 else s * ma / 65535
/-- a color as the bytes of a pixel of kind k (0, 4 or 2) -/
def en (k : Nat) (v : Nat → Int) (ch : Nat) : Int :=
  match k with
  | 0 => v ch / 256
  | 2 => v 3 / 256
  | _ => if ch % 2 = 0 then v (ch / 2) / 256 else v (ch / 2) % 256
/-- a drawn pixel -/
def px0 (dk sk op : Nat) (d s : Nat → Int) : Nat → Int := en dk fun i => mix0 op (cl dk d i) (cl sk s i) (cl sk s 3)
def pxM (dk sk mk op : Nat) (d s m : Nat → Int) : Nat → Int := en dk fun i => mixM op (cl dk d i) (cl sk s i) (cl sk s 3) (cl mk m 3)
/-- bytes a pixel -/
def sz (k : Nat) : Nat := match k with | 2 => 1 | 3 => 1 | 4 => 8 | 6 => 8 | _ => 4
/-- bytes -/
def By (p : Nat → Int) : Prop := ∀ i, 0 ≤ p i ∧ p i ≤ 255
/-- no color is above alpha -/
def Pm (k : Nat) (p : Nat → Int) : Prop := ∀ i, i < 3 → cl k p i ≤ cl k p 3

theorem cl_range {k : Nat} {p : Nat → Int} (h : By p) (ch : Nat) : 0 ≤ cl k p ch ∧ cl k p ch ≤ 65535 := by
  have h0 := h ch; have h1 := h 0; have h3 := h 3; have h4 := h (2 * ch); have h5 := h (2 * ch + 1)
  unfold cl
  split
  · omega
  · split
    · omega
    · have e : p ch * 257 * p 3 = 257 * (p ch * p 3) := by rw [Int.mul_comm (p ch) 257, Int.mul_assoc]
      rw [e]
      have hp : 0 ≤ p ch * p 3 := Int.mul_nonneg h0.1 h3.1
      have hq : p ch * p 3 ≤ 255 * 255 := Int.mul_le_mul h0.2 h3.2 h3.1 (by omega)
      omega
  · omega
  · split <;> omega
  · split
    · omega
    · have hp : 0 ≤ (65535 - p ch * 257) * (65535 - p 3 * 257) := Int.mul_nonneg (by omega) (by omega)
      have hq : (65535 - p ch * 257) * (65535 - p 3 * 257) ≤ 65535 * 65535 := Int.mul_le_mul (by omega) (by omega) (by omega) (by omega)
      omega
  · omega

theorem cl0 (p : Nat → Int) (ch : Nat) : cl 0 p ch = p ch * 257 := rfl
theorem cl1 (p : Nat → Int) (ch : Nat) : cl 1 p ch = if ch = 3 then p 3 * 257 else p ch * 257 * p 3 / 255 := rfl
theorem cl2 (p : Nat → Int) (ch : Nat) : cl 2 p ch = p 0 * 257 := rfl
theorem cl3 (p : Nat → Int) (ch : Nat) : cl 3 p ch = if ch = 3 then 65535 else p 0 * 257 := rfl
theorem cl4 (p : Nat → Int) (ch : Nat) : cl 4 p ch = p (2 * ch) * 256 + p (2 * ch + 1) := rfl
theorem cl5 (p : Nat → Int) (ch : Nat) : cl 5 p ch = if ch = 3 then 65535 else (65535 - p ch * 257) * (65535 - p 3 * 257) / 65535 := rfl
theorem cl6 (p : Nat → Int) (ch : Nat) : cl 6 p ch = p (2 * ch) * 256 + p (2 * ch + 1) := rfl
theorem en0 (v : Nat → Int) (ch : Nat) : en 0 v ch = v ch / 256 := rfl
theorem en2 (v : Nat → Int) (ch : Nat) : en 2 v ch = v 3 / 256 := rfl
theorem en4 (v : Nat → Int) (ch : Nat) : en 4 v ch = if ch % 2 = 0 then v (ch / 2) / 256 else v (ch / 2) % 256 := rfl

/-- kinds whose colors are below alpha by their making -/
theorem Pm_of {k : Nat} {p : Nat → Int} (h : By p) (hk : k = 1 ∨ k = 2 ∨ k = 3 ∨ k = 5) : Pm k p := by
  intro i hi
  have h0 := h i; have h3 := h 3; have hz := h 0
  rcases hk with rfl | rfl | rfl | rfl
  · rw [cl1, cl1, if_neg (by omega), if_pos rfl]
    have e : p i * 257 * p 3 = 257 * (p i * p 3) := by rw [Int.mul_comm (p i) 257, Int.mul_assoc]
    rw [e]
    have hq : p i * p 3 ≤ 255 * p 3 := Int.mul_le_mul_of_nonneg_right h0.2 h3.1
    omega
  · rw [cl2, cl2]; omega
  · rw [cl3, cl3, if_neg (by omega), if_pos rfl]; omega
  · rw [cl5, cl5, if_neg (by omega), if_pos rfl]
    have hq : (65535 - p i * 257) * (65535 - p 3 * 257) ≤ 65535 * 65535 := Int.mul_le_mul (by omega) (by omega) (by omega) (by omega)
    omega

/-- a product of a color and the rest of an alpha -/
theorem rest_le {d x : Int} (h0 : 0 ≤ d) (h1 : d ≤ 65535) (hx0 : 0 ≤ x) : 0 ≤ d * x ∧ d * x ≤ 65535 * x :=
  ⟨Int.mul_nonneg h0 hx0, Int.mul_le_mul_of_nonneg_right h1 hx0⟩
/-- of a color of 8 bits -/
theorem rest8_le {d x : Int} (h0 : 0 ≤ d) (h1 : d ≤ 255) (hx0 : 0 ≤ x) : 0 ≤ d * (x * 257) ∧ d * (x * 257) ≤ 65535 * x := by
  have e : d * (x * 257) = 257 * (d * x) := by rw [← Int.mul_assoc, Int.mul_comm]
  have hp : 0 ≤ d * x := Int.mul_nonneg h0 hx0
  have hq : d * x ≤ 255 * x := Int.mul_le_mul_of_nonneg_right h1 hx0
  omega
theorem rest8_eq (d x : Int) : d * (x * 257) = d * 257 * x := by
  rw [Int.mul_comm x 257, Int.mul_assoc]
theorem prod_le {s m a : Int} (hm : 0 ≤ m) (h : s ≤ a) : s * m ≤ a * m := Int.mul_le_mul_of_nonneg_right h hm
theorem nmul (a b : Int) : a * (b * 257) = a * 257 * b := by rw [← Int.mul_assoc, Int.mul_assoc, Int.mul_comm b 257, ← Int.mul_assoc]
theorem mix0_full (op : Nat) (d s : Int) : mix0 op d s 65535 = s := by
  unfold mix0; split
  · rw [show (65535 : Int) - 65535 = 0 from rfl, Int.mul_zero]; omega
  · rfl
theorem dv256 {c : Int} (h : 0 ≤ c ∧ c ≤ 65535) : 0 ≤ c / 256 ∧ c / 256 ≤ 255 := by omega
end Go.Proofs.YtgjpohmjkhgpfaaGreat

namespace Go.Proofs.YtgjpohmjkhgpfaaGreat
open Go.RowKit

/-- block b is an image's struct (of type T), its pixels in block pb: h rows, wd columns, k bytes a pixel; its bounds begin at (x0, y0) -/
def Pic (w : World) (b T pb k h wd : Nat) (x0 y0 : Int) (P : Nat → Nat → Nat → Int) : Prop :=
  ∃ n cap st : Nat, w.heap[b]? = some (.cells #[.slice (some ⟨pb, 0, none⟩) n cap, .int .i64 st, .int .i64 x0, .int .i64 y0, .int .i64 (x0 + wd), .int .i64 (y0 + h)] T (0, 0)) ∧
    PixI w pb h wd k P ∧ n = h * st ∧ wd * k = st ∧ n ≤ cap ∧ cap ≤ 9223372036854775807 ∧ b ≠ pb ∧ wd ≤ 128 ∧ h ≤ 128 ∧ -3000 ≤ x0 ∧ x0 ≤ 3000 ∧ -3000 ≤ y0 ∧ y0 ≤ 3000 ∧ (∀ r c, By (P r c))

theorem Pic.kept {w w' : World} {b T pb k h wd : Nat} {x0 y0 : Int} {P : Nat → Nat → Nat → Int} (H : Pic w b T pb k h wd x0 y0 P) {pd : Nat} (hg : w.grownBy w' (some pd)) (h1 : b ≠ pd) (h2 : pb ≠ pd) :
    Pic w' b T pb k h wd x0 y0 P := by
  obtain ⟨n, cap, st, hb, hp, rest⟩ := H
  exact ⟨n, cap, st, (gb_block hg (lt_of_block hb) h1).trans hb, hp.kept (gb_block hg hp.lt h2), rest⟩
theorem Pic.drewn {w w' : World} {b T pb k h wd : Nat} {x0 y0 : Int} {P P' : Nat → Nat → Nat → Int} (H : Pic w b T pb k h wd x0 y0 P) (hg : w.grownBy w' (some pb)) (hp : PixI w' pb h wd k P')
    (hB : ∀ r c, By (P' r c)) : Pic w' b T pb k h wd x0 y0 P' := by
  obtain ⟨n, cap, st, hb, _, q1, q2, q3, q4, q5, q6, q7, q8, q9, q10, q11, _⟩ := H
  exact ⟨n, cap, st, (gb_block hg (lt_of_block hb) q5).trans hb, hp, q1, q2, q3, q4, q5, q6, q7, q8, q9, q10, q11, hB⟩
/-- its cells -/
theorem Pic.cells {w : World} {b T pb k h wd : Nat} {x0 y0 : Int} {P : Nat → Nat → Nat → Int} (H : Pic w b T pb k h wd x0 y0 P) :
    ∃ n cap st : Nat, w.cell? ⟨b, 0, none⟩ = some (.slice (some ⟨pb, 0, none⟩) n cap) ∧ w.cell? ⟨b, 1, none⟩ = some (.int .i64 st) ∧ w.cell? ⟨b, 2, none⟩ = some (.int .i64 x0) ∧ w.cell? ⟨b, 3, none⟩ = some (.int .i64 y0) ∧
      w.cell? ⟨b, 4, none⟩ = some (.int .i64 (x0 + wd)) ∧ w.cell? ⟨b, 5, none⟩ = some (.int .i64 (y0 + h)) ∧ b < w.heap.size ∧
      PixI w pb h wd k P ∧ n = h * st ∧ wd * k = st ∧ n ≤ cap ∧ cap ≤ 9223372036854775807 ∧ b ≠ pb ∧ wd ≤ 128 ∧ h ≤ 128 ∧ -3000 ≤ x0 ∧ x0 ≤ 3000 ∧ -3000 ≤ y0 ∧ y0 ≤ 3000 ∧ (∀ r c, By (P r c)) := by
  obtain ⟨n, cap, st, hb, rest⟩ := H
  exact ⟨n, cap, st, cell_at hb rfl, cell_at hb rfl, cell_at hb rfl, cell_at hb rfl, cell_at hb rfl, cell_at hb rfl, lt_of_block hb, rest⟩
/-- what a row needs: the last byte lies in the block -/
theorem row_fits {h wd k r m : Nat} (hr : r < h) (hm : m ≤ wd * k) : r * (wd * k) + m ≤ h * (wd * k) := by
  have := Nat.mul_le_mul_right (wd * k) (show r + 1 ≤ h by omega)
  rw [Nat.add_mul, Nat.one_mul] at this; omega

/-- the rectangle, against the image's bounds -/
def Rct (x0 y0 x1 y1 dx0 dy0 : Int) (rx ry xe ye h wd : Nat) : Prop :=
  x0 - dx0 = rx ∧ y0 - dy0 = ry ∧ x1 - dx0 = xe ∧ y1 - dy0 = ye ∧ rx < xe ∧ ry < ye ∧ xe ≤ wd ∧ ye ≤ h
/-- the place in another image -/
def Plc (px py sx0 sy0 : Int) (sx sy rx ry xe ye h wd : Nat) : Prop :=
  px - sx0 = sx ∧ py - sy0 = sy ∧ sx + (xe - rx) ≤ wd ∧ sy + (ye - ry) ≤ h
/-- a drawing function's end: only the pixels of the rectangle have changed -/
def Drawn (w : World) (pd k h wd rx ry xe ye : Nat) (F D : Nat → Nat → Nat → Int) (e : Ending) (w' : World) : Prop :=
  e = .returned (.tuple #[]) ∧ w.grownBy w' (some pd) ∧ PixI w' pd h wd k (pt (inR rx xe ry ye) F D)
end Go.Proofs.YtgjpohmjkhgpfaaGreat

namespace Go.Proofs.YtgjpohmjkhgpfaaGreat
open Go.RowKit

/-- a rectangle as a value -/
abbrev vR (x0 y0 x1 y1 : Int) : Value := .agg #[.int .i64 x0, .int .i64 y0, .int .i64 x1, .int .i64 y1]
abbrev vP (x y : Int) : Value := .agg #[.int .i64 x, .int .i64 y]
/-- what a drawing's coordinates keep to -/
def sm (x : Int) : Prop := -2000000000 ≤ x ∧ x ≤ 2000000000

theorem dx_c (x0 y0 x1 y1 : Int) (w : World) (h0 : sm x0) (h1 : sm x1) :
    Calls Tryz.prog 64 #[vR x0 y0 x1 y1] w fun e w' => e = .returned (.int .i64 (x1 - x0)) ∧ w.alloc (.cells #[.int .i64 x0, .int .i64 y0, .int .i64 x1, .int .i64 y1] 78) = w' := by
  unfold sm at h0 h1
  go_enter Tryz.func64, Tryz.ntmps64
  go_wp2
  go_ret
  exact ⟨rfl, rfl⟩

theorem dy_c (x0 y0 x1 y1 : Int) (w : World) (h0 : sm y0) (h1 : sm y1) :
    Calls Tryz.prog 77 #[vR x0 y0 x1 y1] w fun e w' => e = .returned (.int .i64 (y1 - y0)) ∧ w.alloc (.cells #[.int .i64 x0, .int .i64 y0, .int .i64 x1, .int .i64 y1] 78) = w' := by
  unfold sm at h0 h1
  go_enter Tryz.func77, Tryz.ntmps77
  go_wp2
  go_ret
  exact ⟨rfl, rfl⟩

/-- no pixel -/
def emp (x0 y0 x1 y1 : Int) : Bool := decide (x1 ≤ x0) || decide (y1 ≤ y0)

theorem empty_c (x0 y0 x1 y1 : Int) (w : World) :
    Calls Tryz.prog 49 #[vR x0 y0 x1 y1] w fun e w' => e = .returned (.bool (emp x0 y0 x1 y1)) ∧ w.alloc (.cells #[.int .i64 x0, .int .i64 y0, .int .i64 x1, .int .i64 y1] 78) = w' := by
  unfold emp
  by_cases h : x1 ≤ x0
  · go_enter Tryz.func49, Tryz.ntmps49
    go_wp2
    go_ret
    exact ⟨by simp [h], rfl⟩
  · have h' : x0 < x1 := by omega
    go_enter Tryz.func49, Tryz.ntmps49
    go_wp2
    go_ret
    exact ⟨by simp; omega, rfl⟩

theorem add_c (x0 y0 x1 y1 x y : Int) (w : World) (h0 : sm x0) (h1 : sm y0) (h2 : sm x1) (h3 : sm y1) (h4 : sm x) (h5 : sm y) :
    Calls Tryz.prog 75 #[vR x0 y0 x1 y1, vP x y] w fun e w' => e = .returned (vR (x0 + x) (y0 + y) (x1 + x) (y1 + y)) ∧ w.grownBy w' none := by
  unfold sm at *
  go_enter Tryz.func75, Tryz.ntmps75
  go_wp2
  exact bodyPost_ret (v := vR (x0 + x) (y0 + y) (x1 + x) (y1 + y)) (by simp [results, Tryz.results75, go_sem]) rfl ⟨rfl, gb_alloc (gb_alloc (gb_alloc (gb_refl _ _) _) _) _⟩

theorem sub_c (x0 y0 x y : Int) (w : World) (h0 : sm x0) (h1 : sm y0) (h4 : sm x) (h5 : sm y) :
    Calls Tryz.prog 76 #[vP x0 y0, vP x y] w fun e w' => e = .returned (vP (x0 - x) (y0 - y)) ∧ w.grownBy w' none := by
  unfold sm at *
  go_enter Tryz.func76, Tryz.ntmps76
  go_wp2
  exact bodyPost_ret (v := vP (x0 - x) (y0 - y)) (by simp [results, Tryz.results76, go_sem]) rfl ⟨rfl, gb_alloc (gb_alloc (gb_alloc (gb_refl _ _) _) _) _⟩

/-- the greater and the smaller, as the code has it -/
def hi2 (a b : Int) : Int := if a < b then b else a
def lo2 (a b : Int) : Int := if b < a then b else a
theorem hi2_eq (a b : Int) : hi2 a b = max a b := by unfold hi2; split <;> omega
theorem lo2_eq (a b : Int) : lo2 a b = min a b := by unfold lo2; split <;> omega
theorem hi2_t {a b : Int} (h : a < b) : hi2 a b = b := if_pos h
theorem hi2_f {a b : Int} (h : ¬ a < b) : hi2 a b = a := if_neg h
theorem lo2_t {a b : Int} (h : b < a) : lo2 a b = b := if_pos h
theorem lo2_f {a b : Int} (h : ¬ b < a) : lo2 a b = a := if_neg h
/-- what two rectangles have in common -/
def isec (x0 y0 x1 y1 u0 v0 u1 v1 : Int) : Value :=
  bif emp (hi2 x0 u0) (hi2 y0 v0) (lo2 x1 u1) (lo2 y1 v1) then vR 0 0 0 0 else vR (hi2 x0 u0) (hi2 y0 v0) (lo2 x1 u1) (lo2 y1 v1)

set_option maxRecDepth 100000 in
set_option maxHeartbeats 4000000 in
theorem intersect_c (x0 y0 x1 y1 u0 v0 u1 v1 : Int) (w : World) :
    Calls Tryz.prog 74 #[vR x0 y0 x1 y1, vR u0 v0 u1 v1] w fun e w' => e = .returned (isec x0 y0 x1 y1 u0 v0 u1 v1) ∧ w.grownBy w' none := by
  go_enter Tryz.func74, Tryz.ntmps74
  go_upto_if 11 with (fail)
  go_cut [] (fun wx => wx = (((w.alloc (.cells #[.int .i64 (hi2 x0 u0), .int .i64 y0, .int .i64 x1, .int .i64 y1] 78)).alloc (.cells #[.int .i64 u0, .int .i64 v0, .int .i64 u1, .int .i64 v1] 78)).alloc (.cells #[.int .i64 0, .int .i64 0, .int .i64 0, .int .i64 0] 78)))
  case first =>
    by_cases h : x0 < u0
    · go_wp2_with fail
      go_meet
      rw [hi2_t (a := x0) (b := u0) h]
    · go_wp2_with fail
      go_meet
      rw [hi2_f (a := x0) (b := u0) (by omega)]
  case rest =>
  subst hcut
  go_upto_if 23 with (fail)
  go_cut [] (fun wx => wx = (((w.alloc (.cells #[.int .i64 (hi2 x0 u0), .int .i64 (hi2 y0 v0), .int .i64 x1, .int .i64 y1] 78)).alloc (.cells #[.int .i64 u0, .int .i64 v0, .int .i64 u1, .int .i64 v1] 78)).alloc (.cells #[.int .i64 0, .int .i64 0, .int .i64 0, .int .i64 0] 78)))
  case first =>
    by_cases h : y0 < v0
    · go_wp2_with fail
      go_meet
      rw [hi2_t (a := y0) (b := v0) h]
    · go_wp2_with fail
      go_meet
      rw [hi2_f (a := y0) (b := v0) (by omega)]
  case rest =>
  subst hcut
  go_upto_if 35 with (fail)
  go_cut [] (fun wx => wx = (((w.alloc (.cells #[.int .i64 (hi2 x0 u0), .int .i64 (hi2 y0 v0), .int .i64 (lo2 x1 u1), .int .i64 y1] 78)).alloc (.cells #[.int .i64 u0, .int .i64 v0, .int .i64 u1, .int .i64 v1] 78)).alloc (.cells #[.int .i64 0, .int .i64 0, .int .i64 0, .int .i64 0] 78)))
  case first =>
    by_cases h : u1 < x1
    · go_wp2_with fail
      go_meet
      rw [lo2_t (a := x1) (b := u1) h]
    · go_wp2_with fail
      go_meet
      rw [lo2_f (a := x1) (b := u1) (by omega)]
  case rest =>
  subst hcut
  go_upto_if 47 with (fail)
  go_cut [] (fun wx => wx = (((w.alloc (.cells #[.int .i64 (hi2 x0 u0), .int .i64 (hi2 y0 v0), .int .i64 (lo2 x1 u1), .int .i64 (lo2 y1 v1)] 78)).alloc (.cells #[.int .i64 u0, .int .i64 v0, .int .i64 u1, .int .i64 v1] 78)).alloc (.cells #[.int .i64 0, .int .i64 0, .int .i64 0, .int .i64 0] 78)))
  case first =>
    by_cases h : v1 < y1
    · go_wp2_with fail
      go_meet
      rw [lo2_t (a := y1) (b := v1) h]
    · go_wp2_with fail
      go_meet
      rw [lo2_f (a := y1) (b := v1) (by omega)]
  case rest =>
  subst hcut
  go_wp2_with (go_at_call 49; refine (empty_c _ _ _ _ _).mono ?_; rintro e w' ⟨rfl, rfl⟩)
  · rename_i h
    refine bodyPost_ret (v := isec x0 y0 x1 y1 u0 v0 u1 v1) ?_ rfl ⟨rfl, ?_⟩
    · unfold isec; rw [h]; simp [results, Tryz.results74, go_sem]
    · exact gb_alloc (gb_alloc (gb_alloc (gb_alloc (gb_refl _ _) _) _) _) _
  · rename_i h
    refine bodyPost_ret (v := isec x0 y0 x1 y1 u0 v0 u1 v1) ?_ rfl ⟨rfl, ?_⟩
    · unfold isec; rw [h]; simp [results, Tryz.results74, go_sem]
    · exact gb_alloc (gb_alloc (gb_alloc (gb_alloc (gb_refl _ _) _) _) _) _
end Go.Proofs.YtgjpohmjkhgpfaaGreat

namespace Go.Proofs.YtgjpohmjkhgpfaaGreat
open Go.RowKit

@[go_sem] theorem m_RGBA_Bounds (a : Addr) (w : World) : (method 326 85 (.pointer (some a)) "Bounds").run Tryz.prog w = .ok (126, .pointer (some a)) w := by kernel_rfl
@[go_sem] theorem m_RGBA_RGBA64At (a : Addr) (w : World) : (method 326 85 (.pointer (some a)) "RGBA64At").run Tryz.prog w = .ok (129, .pointer (some a)) w := by kernel_rfl
@[go_sem] theorem m_RGBA_At (a : Addr) (w : World) : (method 326 85 (.pointer (some a)) "At").run Tryz.prog w = .ok (125, .pointer (some a)) w := by kernel_rfl
@[go_sem] theorem m_RGBA_Set (a : Addr) (w : World) : (method 326 85 (.pointer (some a)) "Set").run Tryz.prog w = .ok (130, .pointer (some a)) w := by kernel_rfl
@[go_sem] theorem m_RGBA_SetRGBA64 (a : Addr) (w : World) : (method 326 85 (.pointer (some a)) "SetRGBA64").run Tryz.prog w = .ok (131, .pointer (some a)) w := by kernel_rfl
@[go_sem] theorem m_NRGBA_Bounds (a : Addr) (w : World) : (method 326 88 (.pointer (some a)) "Bounds").run Tryz.prog w = .ok (136, .pointer (some a)) w := by kernel_rfl
@[go_sem] theorem m_NRGBA_RGBA64At (a : Addr) (w : World) : (method 326 88 (.pointer (some a)) "RGBA64At").run Tryz.prog w = .ok (139, .pointer (some a)) w := by kernel_rfl
@[go_sem] theorem m_NRGBA_At (a : Addr) (w : World) : (method 326 88 (.pointer (some a)) "At").run Tryz.prog w = .ok (135, .pointer (some a)) w := by kernel_rfl
@[go_sem] theorem m_Alpha_Bounds (a : Addr) (w : World) : (method 326 90 (.pointer (some a)) "Bounds").run Tryz.prog w = .ok (145, .pointer (some a)) w := by kernel_rfl
@[go_sem] theorem m_Alpha_RGBA64At (a : Addr) (w : World) : (method 326 90 (.pointer (some a)) "RGBA64At").run Tryz.prog w = .ok (148, .pointer (some a)) w := by kernel_rfl
@[go_sem] theorem m_Alpha_At (a : Addr) (w : World) : (method 326 90 (.pointer (some a)) "At").run Tryz.prog w = .ok (144, .pointer (some a)) w := by kernel_rfl
@[go_sem] theorem m_Alpha_Set (a : Addr) (w : World) : (method 326 90 (.pointer (some a)) "Set").run Tryz.prog w = .ok (149, .pointer (some a)) w := by kernel_rfl
@[go_sem] theorem m_Alpha_SetRGBA64 (a : Addr) (w : World) : (method 326 90 (.pointer (some a)) "SetRGBA64").run Tryz.prog w = .ok (150, .pointer (some a)) w := by kernel_rfl
@[go_sem] theorem m_Gray_Bounds (a : Addr) (w : World) : (method 326 92 (.pointer (some a)) "Bounds").run Tryz.prog w = .ok (155, .pointer (some a)) w := by kernel_rfl
@[go_sem] theorem m_Gray_RGBA64At (a : Addr) (w : World) : (method 326 92 (.pointer (some a)) "RGBA64At").run Tryz.prog w = .ok (158, .pointer (some a)) w := by kernel_rfl
@[go_sem] theorem m_Gray_At (a : Addr) (w : World) : (method 326 92 (.pointer (some a)) "At").run Tryz.prog w = .ok (154, .pointer (some a)) w := by kernel_rfl
@[go_sem] theorem m_RGBA64_Bounds (a : Addr) (w : World) : (method 326 94 (.pointer (some a)) "Bounds").run Tryz.prog w = .ok (165, .pointer (some a)) w := by kernel_rfl
@[go_sem] theorem m_RGBA64_RGBA64At (a : Addr) (w : World) : (method 326 94 (.pointer (some a)) "RGBA64At").run Tryz.prog w = .ok (168, .pointer (some a)) w := by kernel_rfl
@[go_sem] theorem m_RGBA64_At (a : Addr) (w : World) : (method 326 94 (.pointer (some a)) "At").run Tryz.prog w = .ok (164, .pointer (some a)) w := by kernel_rfl
@[go_sem] theorem m_RGBA64_Set (a : Addr) (w : World) : (method 326 94 (.pointer (some a)) "Set").run Tryz.prog w = .ok (169, .pointer (some a)) w := by kernel_rfl
@[go_sem] theorem m_RGBA64_SetRGBA64 (a : Addr) (w : World) : (method 326 94 (.pointer (some a)) "SetRGBA64").run Tryz.prog w = .ok (170, .pointer (some a)) w := by kernel_rfl
@[go_sem] theorem m_CMYK_Bounds (a : Addr) (w : World) : (method 326 96 (.pointer (some a)) "Bounds").run Tryz.prog w = .ok (175, .pointer (some a)) w := by kernel_rfl
@[go_sem] theorem m_CMYK_RGBA64At (a : Addr) (w : World) : (method 326 96 (.pointer (some a)) "RGBA64At").run Tryz.prog w = .ok (178, .pointer (some a)) w := by kernel_rfl
@[go_sem] theorem m_CMYK_At (a : Addr) (w : World) : (method 326 96 (.pointer (some a)) "At").run Tryz.prog w = .ok (174, .pointer (some a)) w := by kernel_rfl
@[go_sem] theorem m_Uniform_Bounds (a : Addr) (w : World) : (method 326 100 (.pointer (some a)) "Bounds").run Tryz.prog w = .ok (188, .pointer (some a)) w := by kernel_rfl
@[go_sem] theorem m_Uniform_RGBA64At (a : Addr) (w : World) : (method 326 100 (.pointer (some a)) "RGBA64At").run Tryz.prog w = .ok (192, .pointer (some a)) w := by kernel_rfl
@[go_sem] theorem m_Uniform_At (a : Addr) (w : World) : (method 326 100 (.pointer (some a)) "At").run Tryz.prog w = .ok (187, .pointer (some a)) w := by kernel_rfl
@[go_sem] theorem m_cRGBA (v0 v1 v2 v3 : Value) (w : World) : (method 326 174 (.agg #[v0, v1, v2, v3]) "RGBA").run Tryz.prog w = .ok (86, .agg #[v0, v1, v2, v3]) w := by kernel_rfl
@[go_sem] theorem m_cNRGBA (v0 v1 v2 v3 : Value) (w : World) : (method 326 176 (.agg #[v0, v1, v2, v3]) "RGBA").run Tryz.prog w = .ok (89, .agg #[v0, v1, v2, v3]) w := by kernel_rfl
@[go_sem] theorem m_cAlpha (v0 : Value) (w : World) : (method 326 208 (.agg #[v0]) "RGBA").run Tryz.prog w = .ok (222, .agg #[v0]) w := by kernel_rfl
@[go_sem] theorem m_cGray (v0 : Value) (w : World) : (method 326 212 (.agg #[v0]) "RGBA").run Tryz.prog w = .ok (223, .agg #[v0]) w := by kernel_rfl
@[go_sem] theorem m_cRGBA64 (v0 v1 v2 v3 : Value) (w : World) : (method 326 103 (.agg #[v0, v1, v2, v3]) "RGBA").run Tryz.prog w = .ok (193, .agg #[v0, v1, v2, v3]) w := by kernel_rfl
@[go_sem] theorem m_cCMYK (v0 v1 v2 v3 : Value) (w : World) : (method 326 217 (.agg #[v0, v1, v2, v3]) "RGBA").run Tryz.prog w = .ok (182, .agg #[v0, v1, v2, v3]) w := by kernel_rfl
@[go_sem] theorem m_cAlpha16 (v0 : Value) (w : World) : (method 326 154 (.agg #[v0]) "RGBA").run Tryz.prog w = .ok (218, .agg #[v0]) w := by kernel_rfl
@[go_sem] theorem m_plain_Bounds (v : Value) (w : World) : (method 326 83 (.agg #[v]) "Bounds").run Tryz.prog w = .ok (122, .agg #[v]) w := by kernel_rfl
@[go_sem] theorem m_plain_At (v : Value) (w : World) : (method 326 83 (.agg #[v]) "At").run Tryz.prog w = .ok (121, .agg #[v]) w := by kernel_rfl
@[go_sem] theorem m_plain_Set (v : Value) (w : World) : (method 326 83 (.agg #[v]) "Set").run Tryz.prog w = .ok (124, .agg #[v]) w := by kernel_rfl
@[go_sem] theorem m_model (a : Addr) (w : World) : (method 326 202 (.pointer (some a)) "Convert").run Tryz.prog w = .ok (221, .pointer (some a)) w := by kernel_rfl
@[go_sem] theorem fld_Alpha (v : Int) (w : World) : (Instr.field 208 (.agg #[.int .u8 v]) 0).run Tryz.prog w = .ok (.int .u8 v) w := by kernel_rfl
@[go_sem] theorem fld_Gray (v : Int) (w : World) : (Instr.field 212 (.agg #[.int .u8 v]) 0).run Tryz.prog w = .ok (.int .u8 v) w := by kernel_rfl
end Go.Proofs.YtgjpohmjkhgpfaaGreat

namespace Go.Proofs.YtgjpohmjkhgpfaaGreat
open Go.RowKit

theorem nat_or257 (n : Nat) (h : n < 256) : n ||| (n * 256) = n * 257 := by
  rw [Nat.or_comm, nat_join 8 (n * 256) n (by omega) (by omega)]; omega
theorem or257 {r : Int} (h : 0 ≤ r ∧ r ≤ 255) : bits .or .u32 r (r * 256) = r * 257 := by
  rw [u32_or _ _ (by omega) (by omega) (by omega) (by omega)]
  obtain ⟨n, rfl⟩ := Int.eq_ofNat_of_zero_le h.1
  rw [show ((n : Int) * 256).toNat = n * 256 by omega, Int.toNat_natCast, nat_or257 n (by omega)]; omega
theorem or257' {r : Int} (h : 0 ≤ r ∧ r ≤ 255) : bits .or .u16 (r * 256) r = r * 257 := by
  rw [u16_or _ _ (by omega) (by omega) (by omega) (by omega)]
  obtain ⟨n, rfl⟩ := Int.eq_ofNat_of_zero_le h.1
  rw [show ((n : Int) * 256).toNat = n * 256 by omega, Int.toNat_natCast, Nat.or_comm, nat_or257 n (by omega)]; omega
theorem or16 {r s : Int} (h : 0 ≤ r ∧ r ≤ 255) (h' : 0 ≤ s ∧ s ≤ 255) : bits .or .u16 (r * 256) s = r * 256 + s := by
  rw [u16_or _ _ (by omega) (by omega) (by omega) (by omega)]
  obtain ⟨n, rfl⟩ := Int.eq_ofNat_of_zero_le h.1
  obtain ⟨m, rfl⟩ := Int.eq_ofNat_of_zero_le h'.1
  rw [show ((n : Int) * 256).toNat = n * 256 by omega, Int.toNat_natCast, nat_join 8 (n * 256) m (by omega) (by omega)]; omega
theorem or64 {r s : Int} (h : 0 ≤ r ∧ r ≤ 255) (h' : 0 ≤ s ∧ s ≤ 255) : bits .or .i64 (r * 256) s = r * 256 + s := by
  obtain ⟨n, rfl⟩ := Int.eq_ofNat_of_zero_le h.1
  obtain ⟨m, rfl⟩ := Int.eq_ofNat_of_zero_le h'.1
  have e1 : (BitVec.ofInt 64 ((n : Int) * 256)).toNat = n * 256 := by
    rw [show (n : Int) * 256 = ((n * 256 : Nat) : Int) by omega, BitVec.ofInt_natCast, BitVec.toNat_ofNat]; exact Nat.mod_eq_of_lt (by omega)
  have e2 : (BitVec.ofInt 64 (m : Int)).toNat = m := by
    rw [BitVec.ofInt_natCast, BitVec.toNat_ofNat]; exact Nat.mod_eq_of_lt (by omega)
  show IntKind.i64.wrap ((BitVec.ofInt 64 ((n : Int) * 256) ||| BitVec.ofInt 64 (m : Int)).toNat : Int) = _
  rw [BitVec.toNat_or, e1, e2, nat_join 8 (n * 256) m (by omega) (by omega), IntKind.wrap_i64]
  omega
theorem prod3 {r a : Int} (hr : 0 ≤ r ∧ r ≤ 255) (ha : 0 ≤ a ∧ a ≤ 255) : 0 ≤ r * 257 * a ∧ r * 257 * a ≤ 16711425 := by
  have e : r * 257 * a = 257 * (r * a) := by rw [Int.mul_comm r 257, Int.mul_assoc]
  rw [e]
  have hp : 0 ≤ r * a := Int.mul_nonneg hr.1 ha.1
  have hq : r * a ≤ 255 * 255 := Int.mul_le_mul hr.2 ha.2 ha.1 (by omega)
  omega

theorem or257u {r : Int} (h : 0 ≤ r ∧ r ≤ 255) : bits .or .u16 r (r * 256) = r * 257 := by
  rw [u16_or _ _ (by omega) (by omega) (by omega) (by omega)]
  obtain ⟨n, rfl⟩ := Int.eq_ofNat_of_zero_le h.1
  rw [show ((n : Int) * 256).toNat = n * 256 by omega, Int.toNat_natCast, nat_or257 n (by omega)]; omega
theorem ret4 {fn : Func} {t u v x : Tmp} (h : fn.results = #[.tmp t, .tmp u, .tmp v, .tmp x]) (tmps : Array Value) (P : Program) (w : World) :
    (results fn tmps).run P w = .ok (.tuple #[tmps.getD t undef, tmps.getD u undef, tmps.getD v undef, tmps.getD x undef]) w := by simp [results, h]
theorem ret3 {fn : Func} {t u v : Tmp} (h : fn.results = #[.tmp t, .tmp u, .tmp v]) (tmps : Array Value) (P : Program) (w : World) :
    (results fn tmps).run P w = .ok (.tuple #[tmps.getD t undef, tmps.getD u undef, tmps.getD v undef]) w := by simp [results, h]
/-- four numbers of 32 bits, as RGBA returns them -/
abbrev v4 (f : Nat → Int) : Value := .tuple #[.int .u32 (f 0), .int .u32 (f 1), .int .u32 (f 2), .int .u32 (f 3)]
abbrev b4 (p : Nat → Int) : Value := .agg #[.int .u8 (p 0), .int .u8 (p 1), .int .u8 (p 2), .int .u8 (p 3)]
abbrev c64 (f : Nat → Int) : Value := .agg #[.int .u16 (f 0), .int .u16 (f 1), .int .u16 (f 2), .int .u16 (f 3)]

set_option maxHeartbeats 2000000 in
theorem nrgba_RGBA_c (p : Nat → Int) (w : World) (hp : By p) :
    Calls Tryz.prog 89 #[b4 p] w fun e w' => e = .returned (v4 (cl 1 p)) ∧ w.grownBy w' none := by
  have o1 := or257 (hp 0); have o2 := or257 (hp 1); have o3 := or257 (hp 2); have o4 := or257 (hp 3)
  have p1 := prod3 (hp 0) (hp 3); have p2 := prod3 (hp 1) (hp 3); have p3 := prod3 (hp 2) (hp 3)
  have h0 := hp 0; have h1 := hp 1; have h2 := hp 2; have h3 := hp 3
  have Hp := hid hp
  clear hp
  go_enter Tryz.func89, Tryz.ntmps89
  go_wp2
  refine bodyPost_ret (ret4 rfl _ _ _) rfl ?_
  exact ⟨rfl, gb_alloc (gb_refl _ _) _⟩

set_option maxHeartbeats 2000000 in
theorem rgba_RGBA_c (p : Nat → Int) (w : World) (hp : By p) :
    Calls Tryz.prog 86 #[b4 p] w fun e w' => e = .returned (v4 (cl 0 p)) ∧ w.grownBy w' none := by
  have o1 := or257 (hp 0); have o2 := or257 (hp 1); have o3 := or257 (hp 2); have o4 := or257 (hp 3)
  have h0 := hp 0; have h1 := hp 1; have h2 := hp 2; have h3 := hp 3
  have Hp := hid hp
  clear hp
  go_enter Tryz.func86, Tryz.ntmps86
  go_wp2
  refine bodyPost_ret (ret4 rfl _ _ _) rfl ?_
  exact ⟨rfl, gb_alloc (gb_refl _ _) _⟩

set_option maxHeartbeats 2000000 in
theorem alpha_RGBA_c (p : Nat → Int) (w : World) (hp : By p) :
    Calls Tryz.prog 222 #[.agg #[.int .u8 (p 0)]] w fun e w' => e = .returned (v4 (cl 2 p)) ∧ w.grownBy w' none := by
  have o1 := or257 (hp 0)
  have h0 := hp 0
  have Hp := hid hp
  clear hp
  go_enter Tryz.func222, Tryz.ntmps222
  go_wp2
  refine bodyPost_ret (ret4 rfl _ _ _) rfl ?_
  exact ⟨rfl, gb_alloc (gb_refl _ _) _⟩

set_option maxHeartbeats 2000000 in
theorem gray_RGBA_c (p : Nat → Int) (w : World) (hp : By p) :
    Calls Tryz.prog 223 #[.agg #[.int .u8 (p 0)]] w fun e w' => e = .returned (v4 (cl 3 p)) ∧ w.grownBy w' none := by
  have o1 := or257 (hp 0)
  have h0 := hp 0
  have Hp := hid hp
  clear hp
  go_enter Tryz.func223, Tryz.ntmps223
  go_wp2
  refine bodyPost_ret (ret4 rfl _ _ _) rfl ?_
  exact ⟨rfl, gb_alloc (gb_refl _ _) _⟩

set_option maxHeartbeats 2000000 in
theorem alpha16_RGBA_c (a : Int) (w : World) (hp : 0 ≤ a ∧ a ≤ 65535) :
    Calls Tryz.prog 218 #[.agg #[.int .u16 a]] w fun e w' => e = .returned (v4 fun _ => a) ∧ w.grownBy w' none := by
  go_enter Tryz.func218, Tryz.ntmps218
  go_wp2
  refine bodyPost_ret (ret4 rfl _ _ _) rfl ?_
  exact ⟨rfl, gb_alloc (gb_refl _ _) _⟩

set_option maxHeartbeats 2000000 in
theorem rgba64_RGBA_c (f : Nat → Int) (w : World) (hp : ∀ i, 0 ≤ f i ∧ f i ≤ 65535) :
    Calls Tryz.prog 193 #[c64 f] w fun e w' => e = .returned (v4 f) ∧ w.grownBy w' none := by
  have h0 := hp 0; have h1 := hp 1; have h2 := hp 2; have h3 := hp 3
  have Hp := hid hp
  clear hp
  go_enter Tryz.func193, Tryz.ntmps193
  go_wp2
  go_quiet (fail)
  go_wp2
  refine bodyPost_ret (ret4 rfl _ _ _) rfl ?_
  exact ⟨rfl, gb_drewN (gb_alloc (gb_refl _ _) _) _⟩

theorem cmy {c k : Int} (hc : 0 ≤ c ∧ c ≤ 255) (hk : 0 ≤ k ∧ k ≤ 255) : 0 ≤ (65535 - c * 257) * (65535 - k * 257) ∧ (65535 - c * 257) * (65535 - k * 257) ≤ 4294836225 := by
  have hp : 0 ≤ (65535 - c * 257) * (65535 - k * 257) := Int.mul_nonneg (by omega) (by omega)
  have hq : (65535 - c * 257) * (65535 - k * 257) ≤ 65535 * 65535 := Int.mul_le_mul (by omega) (by omega) (by omega) (by omega)
  exact ⟨hp, hq⟩

set_option maxHeartbeats 2000000 in
theorem cmyk_RGBA_c (p : Nat → Int) (w : World) (hp : By p) :
    Calls Tryz.prog 182 #[b4 p] w fun e w' => e = .returned (v4 (cl 5 p)) ∧ w.grownBy w' none := by
  have p1 := cmy (hp 0) (hp 3); have p2 := cmy (hp 1) (hp 3); have p3 := cmy (hp 2) (hp 3)
  have h0 := hp 0; have h1 := hp 1; have h2 := hp 2; have h3 := hp 3
  have Hp := hid hp
  clear hp
  go_enter Tryz.func182, Tryz.ntmps182
  go_wp2
  refine bodyPost_ret (ret4 rfl _ _ _) rfl ?_
  exact ⟨rfl, gb_alloc (gb_refl _ _) _⟩

set_option maxHeartbeats 2000000 in
theorem toRGB_c (p : Nat → Int) (w : World) (hp : By p) :
    Calls Tryz.prog 78 #[.int .u8 (p 0), .int .u8 (p 1), .int .u8 (p 2), .int .u8 (p 3)] w fun e w' =>
      e = .returned (.tuple #[.int .u8 (cl 5 p 0 / 256), .int .u8 (cl 5 p 1 / 256), .int .u8 (cl 5 p 2 / 256)]) ∧ w = w' := by
  have p1 := cmy (hp 0) (hp 3); have p2 := cmy (hp 1) (hp 3); have p3 := cmy (hp 2) (hp 3)
  have h0 := hp 0; have h1 := hp 1; have h2 := hp 2; have h3 := hp 3
  have Hp := hid hp
  clear hp
  go_enter Tryz.func78, Tryz.ntmps78
  go_wp2
  refine bodyPost_ret (ret3 rfl _ _ _) rfl ?_
  exact ⟨rfl, rfl⟩

set_option maxRecDepth 100000 in
set_option maxHeartbeats 2000000 in
theorem uni_RGBA_c (f : Nat → Int) (b : Nat) (w : World) (hp : ∀ i, 0 ≤ f i ∧ f i ≤ 65535) (hc : w.cell? ⟨b, 0, none⟩ = some (.iface 103 (c64 f))) :
    Calls Tryz.prog 50 #[.pointer (some ⟨b, 0, none⟩)] w fun e w' => e = .returned (v4 f) ∧ w.grownBy w' none := by
  go_enter Tryz.func50, Tryz.ntmps50
  have Hp := hid hp
  clear hp
  go_wp2_with (go_at_call 193; refine (rgba64_RGBA_c f _ Hp.out).mono ?_; rintro e w' ⟨rfl, hg⟩)
  refine bodyPost_ret (ret4 rfl _ _ _) rfl ?_
  exact ⟨rfl, hg⟩
end Go.Proofs.YtgjpohmjkhgpfaaGreat

namespace Go.Proofs.YtgjpohmjkhgpfaaGreat
open Go.RowKit

set_option maxRecDepth 100000 in
set_option maxHeartbeats 2000000 in
theorem in_c (x y x0 y0 x1 y1 : Int) (w : World) (h1 : x0 ≤ x) (h2 : x < x1) (h3 : y0 ≤ y) (h4 : y < y1) :
    Calls Tryz.prog 95 #[vP x y, vR x0 y0 x1 y1] w fun e w' => e = .returned (.bool true) ∧ w.grownBy w' none := by
  go_enter Tryz.func95, Tryz.ntmps95
  go_wp2
  go_ret
  exact ⟨rfl, gb_alloc (gb_alloc (gb_refl _ _) _) _⟩

set_option maxRecDepth 100000 in
set_option maxHeartbeats 2000000 in
theorem off_RGBA (b st r c q : Nat) (x y x0 y0 : Int) (w : World) (h1 : w.cell? ⟨b, 1, none⟩ = some (.int .i64 st)) (h2 : w.cell? ⟨b, 2, none⟩ = some (.int .i64 x0)) (h3 : w.cell? ⟨b, 3, none⟩ = some (.int .i64 y0))
    (e1 : x - x0 = c) (e2 : y - y0 = r) (hc : c ≤ 128) (hr : r ≤ 128) (hs : st ≤ 1024) (hq : q = r * st + c * 4) :
    Calls Tryz.prog 62 #[.pointer (some ⟨b, 0, none⟩), .int .i64 x, .int .i64 y] w fun e w' => e = .returned (.int .i64 (q : Int)) ∧ w.grownBy w' none := by
  obtain ⟨m, hm⟩ : ∃ m : Nat, r * st = m := ⟨_, rfl⟩
  have f : (r : Int) * st = m := by rw [← hm]; push_cast; rfl
  have hb : m ≤ 128 * 1024 := by rw [← hm]; exact Nat.mul_le_mul hr hs
  rw [hm] at hq
  subst hq
  clear hm
  go_enter Tryz.func62, Tryz.ntmps62
  go_wp2
  go_quiet (fail)
  go_wp2
  go_ret
  exact ⟨by first | (simp; done) | go_num, gb_drewN (gb_refl _ _) _⟩

set_option maxRecDepth 100000 in
set_option maxHeartbeats 2000000 in
theorem off_NRGBA (b st r c q : Nat) (x y x0 y0 : Int) (w : World) (h1 : w.cell? ⟨b, 1, none⟩ = some (.int .i64 st)) (h2 : w.cell? ⟨b, 2, none⟩ = some (.int .i64 x0)) (h3 : w.cell? ⟨b, 3, none⟩ = some (.int .i64 y0))
    (e1 : x - x0 = c) (e2 : y - y0 = r) (hc : c ≤ 128) (hr : r ≤ 128) (hs : st ≤ 1024) (hq : q = r * st + c * 4) :
    Calls Tryz.prog 71 #[.pointer (some ⟨b, 0, none⟩), .int .i64 x, .int .i64 y] w fun e w' => e = .returned (.int .i64 (q : Int)) ∧ w.grownBy w' none := by
  obtain ⟨m, hm⟩ : ∃ m : Nat, r * st = m := ⟨_, rfl⟩
  have f : (r : Int) * st = m := by rw [← hm]; push_cast; rfl
  have hb : m ≤ 128 * 1024 := by rw [← hm]; exact Nat.mul_le_mul hr hs
  rw [hm] at hq
  subst hq
  clear hm
  go_enter Tryz.func71, Tryz.ntmps71
  go_wp2
  go_quiet (fail)
  go_wp2
  go_ret
  exact ⟨by first | (simp; done) | go_num, gb_drewN (gb_refl _ _) _⟩

set_option maxRecDepth 100000 in
set_option maxHeartbeats 2000000 in
theorem off_Alpha (b st r c q : Nat) (x y x0 y0 : Int) (w : World) (h1 : w.cell? ⟨b, 1, none⟩ = some (.int .i64 st)) (h2 : w.cell? ⟨b, 2, none⟩ = some (.int .i64 x0)) (h3 : w.cell? ⟨b, 3, none⟩ = some (.int .i64 y0))
    (e1 : x - x0 = c) (e2 : y - y0 = r) (hc : c ≤ 128) (hr : r ≤ 128) (hs : st ≤ 1024) (hq : q = r * st + c * 1) :
    Calls Tryz.prog 79 #[.pointer (some ⟨b, 0, none⟩), .int .i64 x, .int .i64 y] w fun e w' => e = .returned (.int .i64 (q : Int)) ∧ w.grownBy w' none := by
  obtain ⟨m, hm⟩ : ∃ m : Nat, r * st = m := ⟨_, rfl⟩
  have f : (r : Int) * st = m := by rw [← hm]; push_cast; rfl
  have hb : m ≤ 128 * 1024 := by rw [← hm]; exact Nat.mul_le_mul hr hs
  rw [hm] at hq
  subst hq
  clear hm
  go_enter Tryz.func79, Tryz.ntmps79
  go_wp2
  go_quiet (fail)
  go_wp2
  go_ret
  exact ⟨by first | (simp; done) | go_num, gb_drewN (gb_refl _ _) _⟩

set_option maxRecDepth 100000 in
set_option maxHeartbeats 2000000 in
theorem off_Gray (b st r c q : Nat) (x y x0 y0 : Int) (w : World) (h1 : w.cell? ⟨b, 1, none⟩ = some (.int .i64 st)) (h2 : w.cell? ⟨b, 2, none⟩ = some (.int .i64 x0)) (h3 : w.cell? ⟨b, 3, none⟩ = some (.int .i64 y0))
    (e1 : x - x0 = c) (e2 : y - y0 = r) (hc : c ≤ 128) (hr : r ≤ 128) (hs : st ≤ 1024) (hq : q = r * st + c * 1) :
    Calls Tryz.prog 81 #[.pointer (some ⟨b, 0, none⟩), .int .i64 x, .int .i64 y] w fun e w' => e = .returned (.int .i64 (q : Int)) ∧ w.grownBy w' none := by
  obtain ⟨m, hm⟩ : ∃ m : Nat, r * st = m := ⟨_, rfl⟩
  have f : (r : Int) * st = m := by rw [← hm]; push_cast; rfl
  have hb : m ≤ 128 * 1024 := by rw [← hm]; exact Nat.mul_le_mul hr hs
  rw [hm] at hq
  subst hq
  clear hm
  go_enter Tryz.func81, Tryz.ntmps81
  go_wp2
  go_quiet (fail)
  go_wp2
  go_ret
  exact ⟨by first | (simp; done) | go_num, gb_drewN (gb_refl _ _) _⟩

set_option maxRecDepth 100000 in
set_option maxHeartbeats 2000000 in
theorem off_RGBA64 (b st r c q : Nat) (x y x0 y0 : Int) (w : World) (h1 : w.cell? ⟨b, 1, none⟩ = some (.int .i64 st)) (h2 : w.cell? ⟨b, 2, none⟩ = some (.int .i64 x0)) (h3 : w.cell? ⟨b, 3, none⟩ = some (.int .i64 y0))
    (e1 : x - x0 = c) (e2 : y - y0 = r) (hc : c ≤ 128) (hr : r ≤ 128) (hs : st ≤ 1024) (hq : q = r * st + c * 8) :
    Calls Tryz.prog 171 #[.pointer (some ⟨b, 0, none⟩), .int .i64 x, .int .i64 y] w fun e w' => e = .returned (.int .i64 (q : Int)) ∧ w.grownBy w' none := by
  obtain ⟨m, hm⟩ : ∃ m : Nat, r * st = m := ⟨_, rfl⟩
  have f : (r : Int) * st = m := by rw [← hm]; push_cast; rfl
  have hb : m ≤ 128 * 1024 := by rw [← hm]; exact Nat.mul_le_mul hr hs
  rw [hm] at hq
  subst hq
  clear hm
  go_enter Tryz.func171, Tryz.ntmps171
  go_wp2
  go_quiet (fail)
  go_wp2
  go_ret
  exact ⟨by first | (simp; done) | go_num, gb_drewN (gb_refl _ _) _⟩

set_option maxRecDepth 100000 in
set_option maxHeartbeats 2000000 in
theorem off_CMYK (b st r c q : Nat) (x y x0 y0 : Int) (w : World) (h1 : w.cell? ⟨b, 1, none⟩ = some (.int .i64 st)) (h2 : w.cell? ⟨b, 2, none⟩ = some (.int .i64 x0)) (h3 : w.cell? ⟨b, 3, none⟩ = some (.int .i64 y0))
    (e1 : x - x0 = c) (e2 : y - y0 = r) (hc : c ≤ 128) (hr : r ≤ 128) (hs : st ≤ 1024) (hq : q = r * st + c * 4) :
    Calls Tryz.prog 183 #[.pointer (some ⟨b, 0, none⟩), .int .i64 x, .int .i64 y] w fun e w' => e = .returned (.int .i64 (q : Int)) ∧ w.grownBy w' none := by
  obtain ⟨m, hm⟩ : ∃ m : Nat, r * st = m := ⟨_, rfl⟩
  have f : (r : Int) * st = m := by rw [← hm]; push_cast; rfl
  have hb : m ≤ 128 * 1024 := by rw [← hm]; exact Nat.mul_le_mul hr hs
  rw [hm] at hq
  subst hq
  clear hm
  go_enter Tryz.func183, Tryz.ntmps183
  go_wp2
  go_quiet (fail)
  go_wp2
  go_ret
  exact ⟨by first | (simp; done) | go_num, gb_drewN (gb_refl _ _) _⟩

set_option maxRecDepth 100000 in
set_option maxHeartbeats 2000000 in
theorem bounds_RGBA {b T pb k h wd : Nat} {x0 y0 : Int} {P : Nat → Nat → Nat → Int} (w : World) (H : Pic w b T pb k h wd x0 y0 P) :
    Calls Tryz.prog 126 #[.pointer (some ⟨b, 0, none⟩)] w fun e w' => e = .returned (vR x0 y0 (x0 + wd) (y0 + h)) ∧ w.grownBy w' none := by
  obtain ⟨n, cap, st, D0, D1, D2, D3, D4, D5, bl, -⟩ := H.cells
  clear H
  go_enter Tryz.func126, Tryz.ntmps126
  go_wp2
  exact bodyPost_ret (v := vR x0 y0 (x0 + wd) (y0 + h)) (by simp [results, Tryz.results126, go_sem]) rfl ⟨rfl, gb_alloc (gb_refl _ _) _⟩

set_option maxRecDepth 100000 in
set_option maxHeartbeats 2000000 in
theorem bounds_NRGBA {b T pb k h wd : Nat} {x0 y0 : Int} {P : Nat → Nat → Nat → Int} (w : World) (H : Pic w b T pb k h wd x0 y0 P) :
    Calls Tryz.prog 136 #[.pointer (some ⟨b, 0, none⟩)] w fun e w' => e = .returned (vR x0 y0 (x0 + wd) (y0 + h)) ∧ w.grownBy w' none := by
  obtain ⟨n, cap, st, D0, D1, D2, D3, D4, D5, bl, -⟩ := H.cells
  clear H
  go_enter Tryz.func136, Tryz.ntmps136
  go_wp2
  exact bodyPost_ret (v := vR x0 y0 (x0 + wd) (y0 + h)) (by simp [results, Tryz.results136, go_sem]) rfl ⟨rfl, gb_alloc (gb_refl _ _) _⟩

set_option maxRecDepth 100000 in
set_option maxHeartbeats 2000000 in
theorem bounds_Alpha {b T pb k h wd : Nat} {x0 y0 : Int} {P : Nat → Nat → Nat → Int} (w : World) (H : Pic w b T pb k h wd x0 y0 P) :
    Calls Tryz.prog 145 #[.pointer (some ⟨b, 0, none⟩)] w fun e w' => e = .returned (vR x0 y0 (x0 + wd) (y0 + h)) ∧ w.grownBy w' none := by
  obtain ⟨n, cap, st, D0, D1, D2, D3, D4, D5, bl, -⟩ := H.cells
  clear H
  go_enter Tryz.func145, Tryz.ntmps145
  go_wp2
  exact bodyPost_ret (v := vR x0 y0 (x0 + wd) (y0 + h)) (by simp [results, Tryz.results145, go_sem]) rfl ⟨rfl, gb_alloc (gb_refl _ _) _⟩

set_option maxRecDepth 100000 in
set_option maxHeartbeats 2000000 in
theorem bounds_Gray {b T pb k h wd : Nat} {x0 y0 : Int} {P : Nat → Nat → Nat → Int} (w : World) (H : Pic w b T pb k h wd x0 y0 P) :
    Calls Tryz.prog 155 #[.pointer (some ⟨b, 0, none⟩)] w fun e w' => e = .returned (vR x0 y0 (x0 + wd) (y0 + h)) ∧ w.grownBy w' none := by
  obtain ⟨n, cap, st, D0, D1, D2, D3, D4, D5, bl, -⟩ := H.cells
  clear H
  go_enter Tryz.func155, Tryz.ntmps155
  go_wp2
  exact bodyPost_ret (v := vR x0 y0 (x0 + wd) (y0 + h)) (by simp [results, Tryz.results155, go_sem]) rfl ⟨rfl, gb_alloc (gb_refl _ _) _⟩

set_option maxRecDepth 100000 in
set_option maxHeartbeats 2000000 in
theorem bounds_RGBA64 {b T pb k h wd : Nat} {x0 y0 : Int} {P : Nat → Nat → Nat → Int} (w : World) (H : Pic w b T pb k h wd x0 y0 P) :
    Calls Tryz.prog 165 #[.pointer (some ⟨b, 0, none⟩)] w fun e w' => e = .returned (vR x0 y0 (x0 + wd) (y0 + h)) ∧ w.grownBy w' none := by
  obtain ⟨n, cap, st, D0, D1, D2, D3, D4, D5, bl, -⟩ := H.cells
  clear H
  go_enter Tryz.func165, Tryz.ntmps165
  go_wp2
  exact bodyPost_ret (v := vR x0 y0 (x0 + wd) (y0 + h)) (by simp [results, Tryz.results165, go_sem]) rfl ⟨rfl, gb_alloc (gb_refl _ _) _⟩

set_option maxRecDepth 100000 in
set_option maxHeartbeats 2000000 in
theorem bounds_CMYK {b T pb k h wd : Nat} {x0 y0 : Int} {P : Nat → Nat → Nat → Int} (w : World) (H : Pic w b T pb k h wd x0 y0 P) :
    Calls Tryz.prog 175 #[.pointer (some ⟨b, 0, none⟩)] w fun e w' => e = .returned (vR x0 y0 (x0 + wd) (y0 + h)) ∧ w.grownBy w' none := by
  obtain ⟨n, cap, st, D0, D1, D2, D3, D4, D5, bl, -⟩ := H.cells
  clear H
  go_enter Tryz.func175, Tryz.ntmps175
  go_wp2
  exact bodyPost_ret (v := vR x0 y0 (x0 + wd) (y0 + h)) (by simp [results, Tryz.results175, go_sem]) rfl ⟨rfl, gb_alloc (gb_refl _ _) _⟩

set_option maxRecDepth 100000 in
set_option maxHeartbeats 2000000 in
theorem bounds_Uniform (a : Addr) (w : World) :
    Calls Tryz.prog 188 #[.pointer (some a)] w fun e w' => e = .returned (vR (-1000000000) (-1000000000) 1000000000 1000000000) ∧ w.grownBy w' none := by
  go_enter Tryz.func188, Tryz.ntmps188
  go_wp2
  exact bodyPost_ret (v := vR (-1000000000) (-1000000000) 1000000000 1000000000) (by simp [results, Tryz.results188, go_sem]) rfl ⟨rfl, gb_alloc (gb_refl _ _) _⟩
end Go.Proofs.YtgjpohmjkhgpfaaGreat
