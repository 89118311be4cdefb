/- Images made of data, of every kind, and what drawing needs of them. The data are within bounds. -/
import Derived.Test.YtgjpohmjkhgpfaaGreatN1
set_option linter.unusedSimpArgs false
set_option linter.unusedVariables false
namespace Go.Proofs.YtgjpohmjkhgpfaaGreat
open Go.RowKit

/-- bounds, columns and rows of an image of kind k -/
def Geo (k : Nat) (x0 y0 x1 y1 : Int) (n h wd : Nat) : Prop :=
  (k = 6 ∧ n = 8 ∧ x0 = -1000000000 ∧ y0 = -1000000000 ∧ x1 = 1000000000 ∧ y1 = 1000000000 ∧ h = 2000000000 ∧ wd = 2000000000) ∨
  (k < 6 ∧ x1 = x0 + wd ∧ y1 = y0 + h ∧ n = h * (wd * sz k) ∧ wd ≤ 128 ∧ h ≤ 128 ∧ -3000 ≤ x0 ∧ x0 ≤ 3000 ∧ -3000 ≤ y0 ∧ y0 ≤ 3000)
theorem Geo.ends {k n h wd : Nat} {x0 y0 x1 y1 : Int} (G : Geo k x0 y0 x1 y1 n h wd) : x1 = x0 + wd ∧ y1 = y0 + h ∧ sm x0 ∧ sm y0 ∧ sm x1 ∧ sm y1 := by
  unfold sm
  rcases G with ⟨_, _, rfl, rfl, rfl, rfl, rfl, rfl⟩ | ⟨_, rfl, rfl, _, h1, h2, h3, h4, h5, h6⟩
  · exact ⟨by omega, by omega, by omega, by omega, by omega, by omega⟩
  · exact ⟨rfl, rfl, by omega, by omega, by omega, by omega⟩
/-- its bounds as the package has them -/
def bdk (k : Nat) (far x : Int) : Int := if k = 6 then far else x

/-- an image that was made -/
def MadeI (w : World) (k : Nat) (x0 y0 x1 y1 : Int) (n : Nat) (p : Nat → Int) (e : Ending) (w' : World) : Prop :=
  ∃ t b A c, e = .returned (.iface t (.pointer (some ⟨b, 0, none⟩))) ∧ IM w' w.heap.size x0 y0 x1 y1 n p A c b k t ∧ w.grownBy w' none
theorem make_c {k n c : Nat} {X0 Y0 X1 Y1 x0 y0 x1 y1 : Int} {A : Option Addr} {p : Nat → Int} (w : World) (h : Rd w A n p) (hp : By p) (hk : k ≤ 6) (hn : n ≤ 2147483648) (h6 : k = 6 → n = 8) (hx0 : sm X0) (hx1 : sm X1)
    (e0 : bdk k (-1000000000) X0 = x0) (e1 : bdk k (-1000000000) Y0 = y0) (e2 : bdk k 1000000000 X1 = x1) (e3 : bdk k 1000000000 Y1 = y1) :
    Calls Tryz.prog 41 #[vI k X0 Y0 X1 Y1 A n c] w (MadeI w k x0 y0 x1 y1 n p) := by
  have hk' : k = 0 ∨ k = 1 ∨ k = 2 ∨ k = 3 ∨ k = 4 ∨ k = 5 ∨ k = 6 := by omega
  rcases hk' with rfl | rfl | rfl | rfl | rfl | rfl | rfl
  · subst e0 e1 e2 e3
    refine (make_RGBA (A := A) (n := n) (c := c) (p := p) w h hn hx0 hx1).mono ?_
    rintro e w' ⟨b, A', c', rfl, hB, hb, ho, hne, hg⟩
    exact ⟨_, b, A', c', rfl, .k0 ⟨hB, hb, ho, hne⟩, hg⟩
  · subst e0 e1 e2 e3
    refine (make_NRGBA (A := A) (n := n) (c := c) (p := p) w h hn hx0 hx1).mono ?_
    rintro e w' ⟨b, A', c', rfl, hB, hb, ho, hne, hg⟩
    exact ⟨_, b, A', c', rfl, .k1 ⟨hB, hb, ho, hne⟩, hg⟩
  · subst e0 e1 e2 e3
    refine (make_Alpha (A := A) (n := n) (c := c) (p := p) w h hn hx0 hx1).mono ?_
    rintro e w' ⟨b, A', c', rfl, hB, hb, ho, hne, hg⟩
    exact ⟨_, b, A', c', rfl, .k2 ⟨hB, hb, ho, hne⟩, hg⟩
  · subst e0 e1 e2 e3
    refine (make_Gray (A := A) (n := n) (c := c) (p := p) w h hn hx0 hx1).mono ?_
    rintro e w' ⟨b, A', c', rfl, hB, hb, ho, hne, hg⟩
    exact ⟨_, b, A', c', rfl, .k3 ⟨hB, hb, ho, hne⟩, hg⟩
  · subst e0 e1 e2 e3
    refine (make_RGBA64 (A := A) (n := n) (c := c) (p := p) w h hn hx0 hx1).mono ?_
    rintro e w' ⟨b, A', c', rfl, hB, hb, ho, hne, hg⟩
    exact ⟨_, b, A', c', rfl, .k4 ⟨hB, hb, ho, hne⟩, hg⟩
  · subst e0 e1 e2 e3
    refine (make_CMYK (A := A) (n := n) (c := c) (p := p) w h hn hx0 hx1).mono ?_
    rintro e w' ⟨b, A', c', rfl, hB, hb, ho, hne, hg⟩
    exact ⟨_, b, A', c', rfl, .k5 ⟨hB, hb, ho, hne⟩, hg⟩
  · subst e0 e1 e2 e3
    obtain rfl := h6 rfl
    refine (make_Uniform (A := A) (c := c) (p := p) w h hp).mono ?_
    rintro e w' ⟨b, rfl, hB, hb, hc, hg⟩
    exact ⟨_, b, none, 0, rfl, .k6 rfl hB hb hc rfl rfl rfl rfl, hg⟩

section
variable {w w' : World} {B n c b k h wd : Nat} {x0 y0 x1 y1 : Int} {p : Nat → Int} {A : Option Addr} {t : TypeId}
/-- where its pixels lie -/
def pbk (k : Nat) (A : Option Addr) (b : Nat) : Nat := if k = 6 then b else (A.map (·.block)).getD 0
theorem IM.src (H : IM w B x0 y0 x1 y1 n p A c b k t) (G : Geo k x0 y0 x1 y1 n h wd) (hp : By p) (hn : 0 < n) : Src w b (pbk k A b) h wd x0 y0 (srcP k wd p) k t ∧ B ≤ pbk k A b ∧ pbk k A b < w.heap.size := by
  cases H
  case k6 h0 h1 h2 h3 e1 e2 e3 e4 =>
    rcases G with ⟨_, rfl, _, _, _, _, rfl, rfl⟩ | ⟨h6, _⟩
    · exact ⟨.k6 p hp rfl h3 h2 rfl e1 e2 rfl rfl, h1, h2⟩
    · omega
  case k0 H =>
    obtain ⟨g, rfl, hg, hl⟩ := H.2.2.1.some hn
    rcases G with ⟨h6, _⟩ | ⟨_, hx, hy, hnn, l1, l2, v1, v2, v3, v4⟩
    · cases h6
    · exact ⟨.k0 (H.pic hp hx hy hnn l1 l2 v1 v2 v3 v4), hg, hl⟩
  case k1 H =>
    obtain ⟨g, rfl, hg, hl⟩ := H.2.2.1.some hn
    rcases G with ⟨h6, _⟩ | ⟨_, hx, hy, hnn, l1, l2, v1, v2, v3, v4⟩
    · cases h6
    · exact ⟨.k1 (H.pic hp hx hy hnn l1 l2 v1 v2 v3 v4), hg, hl⟩
  case k2 H =>
    obtain ⟨g, rfl, hg, hl⟩ := H.2.2.1.some hn
    rcases G with ⟨h6, _⟩ | ⟨_, hx, hy, hnn, l1, l2, v1, v2, v3, v4⟩
    · cases h6
    · exact ⟨.k2 (H.pic hp hx hy hnn l1 l2 v1 v2 v3 v4), hg, hl⟩
  case k3 H =>
    obtain ⟨g, rfl, hg, hl⟩ := H.2.2.1.some hn
    rcases G with ⟨h6, _⟩ | ⟨_, hx, hy, hnn, l1, l2, v1, v2, v3, v4⟩
    · cases h6
    · exact ⟨.k3 (H.pic hp hx hy hnn l1 l2 v1 v2 v3 v4), hg, hl⟩
  case k4 H =>
    obtain ⟨g, rfl, hg, hl⟩ := H.2.2.1.some hn
    rcases G with ⟨h6, _⟩ | ⟨_, hx, hy, hnn, l1, l2, v1, v2, v3, v4⟩
    · cases h6
    · exact ⟨.k4 (H.pic hp hx hy hnn l1 l2 v1 v2 v3 v4), hg, hl⟩
  case k5 H =>
    obtain ⟨g, rfl, hg, hl⟩ := H.2.2.1.some hn
    rcases G with ⟨h6, _⟩ | ⟨_, hx, hy, hnn, l1, l2, v1, v2, v3, v4⟩
    · cases h6
    · exact ⟨.k5 (H.pic hp hx hy hnn l1 l2 v1 v2 v3 v4), hg, hl⟩
/-- a destination -/
theorem IM.dst (H : IM w B x0 y0 x1 y1 n p A c b k t) (hk : k ≠ 6) (hn : 0 < n) : ∃ g, A = some ⟨g, 0, none⟩ ∧ B ≤ g ∧ g < w.heap.size ∧ g ≠ b := by
  cases H
  case k6 => exact absurd rfl hk
  case k0 H => obtain ⟨g, rfl, hg, hl⟩ := H.2.2.1.some hn; exact ⟨g, rfl, hg, hl, H.2.2.2 _ rfl⟩
  case k1 H => obtain ⟨g, rfl, hg, hl⟩ := H.2.2.1.some hn; exact ⟨g, rfl, hg, hl, H.2.2.2 _ rfl⟩
  case k2 H => obtain ⟨g, rfl, hg, hl⟩ := H.2.2.1.some hn; exact ⟨g, rfl, hg, hl, H.2.2.2 _ rfl⟩
  case k3 H => obtain ⟨g, rfl, hg, hl⟩ := H.2.2.1.some hn; exact ⟨g, rfl, hg, hl, H.2.2.2 _ rfl⟩
  case k4 H => obtain ⟨g, rfl, hg, hl⟩ := H.2.2.1.some hn; exact ⟨g, rfl, hg, hl, H.2.2.2 _ rfl⟩
  case k5 H => obtain ⟨g, rfl, hg, hl⟩ := H.2.2.1.some hn; exact ⟨g, rfl, hg, hl, H.2.2.2 _ rfl⟩
theorem IM.own (H : IM w B x0 y0 x1 y1 n p A c b k t) (hk : k ≠ 6) : Own w B n p A c := by
  cases H
  case k6 => exact absurd rfl hk
  case k0 H => exact H.2.2.1
  case k1 H => exact H.2.2.1
  case k2 H => exact H.2.2.1
  case k3 H => exact H.2.2.1
  case k4 H => exact H.2.2.1
  case k5 H => exact H.2.2.1
theorem IM.cell0 (H : IM w B x0 y0 x1 y1 n p A c b k t) (hk : k ≠ 6) : w.cell? ⟨b, 0, none⟩ = some (.slice A n c) := by
  cases H
  case k6 => exact absurd rfl hk
  case k0 H => exact cell_at H.2.1 rfl
  case k1 H => exact cell_at H.2.1 rfl
  case k2 H => exact cell_at H.2.1 rfl
  case k3 H => exact cell_at H.2.1 rfl
  case k4 H => exact cell_at H.2.1 rfl
  case k5 H => exact cell_at H.2.1 rfl
end

open Classical in
/-- the bytes of a drawn image -/
noncomputable def resB (dk wd : Nat) (I : Nat → Nat → Prop) (F : Nat → Nat → Nat → Int) (p : Nat → Int) : Nat → Int :=
  unP wd (sz dk) (pt I F (toP wd (sz dk) p))
end Go.Proofs.YtgjpohmjkhgpfaaGreat
