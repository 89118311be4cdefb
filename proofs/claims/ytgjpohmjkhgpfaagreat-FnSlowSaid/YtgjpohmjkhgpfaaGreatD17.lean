/- Parts of the proof: what the functions of the package and of the reference do (N7, G1, V2, X7, N11, W7c). No condition but those that each theorem names. -/
import Derived.Test.YtgjpohmjkhgpfaaGreatD02
import Derived.Test.YtgjpohmjkhgpfaaGreatD03
import Derived.Test.YtgjpohmjkhgpfaaGreatD04
import Derived.Test.YtgjpohmjkhgpfaaGreatD09
import Derived.Test.YtgjpohmjkhgpfaaGreatD14
import Derived.Test.YtgjpohmjkhgpfaaGreatD15
import Derived.Test.YtgjpohmjkhgpfaaGreatD16
import Derived.Deep.RegionHeld3
set_option linter.unusedSimpArgs false
set_option linter.unusedVariables false
namespace Go.Proofs.YtgjpohmjkhgpfaaGreat
open Go.RowKit

theorem src_slice {w : World} {b pb h wd k : Nat} {x0 y0 : Int} {S : Nat → Nat → Nat → Int} {t : TypeId} (H : Src w b pb h wd x0 y0 S k t) (hk : k < 6) : ∃ n c, w.cell? ⟨b, 0, none⟩ = some (.slice (some ⟨pb, 0, none⟩) n c) := by
  cases H <;> (first | omega | skip)
  all_goals (rename_i H; obtain ⟨n, c, _, h, _⟩ := H.cells; exact ⟨n, c, h⟩)
theorem src_lim {w : World} {b pb h wd k : Nat} {x0 y0 : Int} {S : Nat → Nat → Nat → Int} {t : TypeId} (H : Src w b pb h wd x0 y0 S k t) (hk : k < 6) : b ≠ pb ∧ -3000 ≤ x0 ∧ x0 ≤ 3000 ∧ -3000 ≤ y0 ∧ y0 ≤ 3000 ∧ wd ≤ 128 ∧ h ≤ 128 := by
  cases H <;> (first | omega | skip)
  all_goals (rename_i H; obtain ⟨_, _, _, -, -, -, -, -, -, -, -, -, -, -, -, hne, l1, l2, v1, v2, v3, v4, -⟩ := H.cells; exact ⟨hne, v1, v2, v3, v4, l1, l2⟩)
theorem src_sm {w : World} {b pb h wd k : Nat} {x0 y0 : Int} {S : Nat → Nat → Nat → Int} {t : TypeId} (H : Src w b pb h wd x0 y0 S k t) : sm x0 ∧ sm y0 ∧ sm wd ∧ sm h := by
  by_cases hk : k < 6
  · have := src_lim H hk
    unfold sm; omega
  · cases H <;> (first | omega | skip)
    rename_i e1 e2 e3 e4
    subst e1 e2 e3 e4
    unfold sm; omega
theorem src_apart {w : World} {b g h wd kd b' g' h' wd' ks : Nat} {x0 y0 x0' y0' : Int} {D S : Nat → Nat → Nat → Int} {td ts : TypeId} (H : Src w b g h wd x0 y0 D kd td) (H' : Src w b' g' h' wd' x0' y0' S ks ts) (hk : kd < 6) (hg : g' ≠ g) : b ≠ b' := by
  rintro rfl
  obtain ⟨n, c, h1⟩ := src_slice H hk
  by_cases hk' : ks < 6
  · obtain ⟨n', c', h2⟩ := src_slice H' hk'
    rw [h1] at h2
    injection h2 with h2
    injection h2 with h2
    injection h2 with h2
    injection h2 with h2
    exact hg h2.symm
  · cases H' <;> (first | omega | skip)
    rename_i hc _ _ _ _ _ _
    rw [h1] at hc
    cases hc

theorem mdm_k {w : World} {B n c b kd dh dw B' n' c' b' ks sh sw op : Nat} {dx0 dy0 dx1 dy1 sx0 sy0 sx1 sy1 x0 y0 x1 y1 px py : Int} {p s : Nat → Int} {A A' : Option Addr} {td ts : TypeId} (hop : op ≤ 1) (hkd : kd = 2 ∨ kd = 4)
    (Hd : IM w B dx0 dy0 dx1 dy1 n p A c b kd td) (Hs : IM w B' sx0 sy0 sx1 sy1 n' s A' c' b' ks ts) (GD : Geo kd dx0 dy0 dx1 dy1 n dh dw) (GS : Geo ks sx0 sy0 sx1 sy1 n' sh sw) (hp : By p) (hs : By s)
    (hpm : ∀ r c, Pm ks (srcP ks sw s r c)) (hap : Apart A b' A')
    (m1 : sm x0) (m2 : sm y0) (m3 : sm px) (m4 : sm py) (m5 : sm (x0 - px)) (m6 : sm (y0 - py)) :
    Calls Tryz.prog 42 #[.iface td (.pointer (some ⟨b, 0, none⟩)), vR x0 y0 x1 y1, .iface ts (.pointer (some ⟨b', 0, none⟩)), vP px py, .nilIface, vP 0 0, .int .i64 op] w
      (DMout w B n c A (resB kd dw (In0 x0 y0 x1 y1 px py dx0 dy0 sx0 sy0 sh sw) (fun r c => px0 kd ks op (toP dw (sz kd) p r c) (srcAt ks sw s x0 y0 px py dx0 dy0 sx0 sy0 r c)) p)) := by
  refine mdm0_of (by omega) Hd Hs GD GS hp hs m1 m2 m3 m4 m5 m6 ?_
  intro rx ry xe ye ax ay b0 b1 b2 b3 p0 p1 q0 q1 g hA S1 S2 hC hR hP
  have hap' := hap _ hA
  have n1 : b' ≠ g := fun e => hap'.1 e.symm
  have n2 : pbk ks A' b' ≠ g := by
    by_cases h6 : ks = 6
    · unfold pbk; rw [if_pos h6]; exact n1
    · unfold pbk; rw [if_neg h6]
      rcases GS with ⟨h, _⟩ | ⟨-, e1, e2, hn', l1, l2, v1, v2, v3, v4⟩
      · exact absurd h h6
      · have hR' := hR
        obtain ⟨-, -, -, -, r1, r2, r3, r4⟩ := hR'
        have hP' := hP
        obtain ⟨-, -, r5, r6⟩ := hP'
        obtain ⟨g', e, _⟩ := Hs.dst h6 (by rw [hn']; exact Nat.mul_pos (by omega) (Nat.mul_pos (by omega) (sz_pos ks)))
        rw [e]
        exact hap'.2 _ e
  obtain ⟨n3, hb⟩ := src_lim S1 (by omega)
  exact dm17_0 w S1 hkd S2 hop hpm (src_apart S1 S2 (by omega) n2) n1 n2 n3 hC hR hP hb (src_sm S2)

theorem mdm_0_6 {w : World} {B n c b dh dw B' n' c' b' sh sw op : Nat} {dx0 dy0 dx1 dy1 sx0 sy0 sx1 sy1 x0 y0 x1 y1 px py : Int} {p s : Nat → Int} {A A' : Option Addr} {td ts : TypeId} (hop : op ≤ 1)
    (Hd : IM w B dx0 dy0 dx1 dy1 n p A c b 0 td) (Hs : IM w B' sx0 sy0 sx1 sy1 n' s A' c' b' 6 ts) (GD : Geo 0 dx0 dy0 dx1 dy1 n dh dw) (GS : Geo 6 sx0 sy0 sx1 sy1 n' sh sw) (hp : By p) (hs : By s)
    (hpm : Pm 6 s)
    (m1 : sm x0) (m2 : sm y0) (m3 : sm px) (m4 : sm py) (m5 : sm (x0 - px)) (m6 : sm (y0 - py)) :
    Calls Tryz.prog 42 #[.iface td (.pointer (some ⟨b, 0, none⟩)), vR x0 y0 x1 y1, .iface ts (.pointer (some ⟨b', 0, none⟩)), vP px py, .nilIface, vP 0 0, .int .i64 op] w
      (DMout w B n c A (resB 0 dw (In0 x0 y0 x1 y1 px py dx0 dy0 sx0 sy0 sh sw) (fun r c => px0 0 6 op (toP dw (sz 0) p r c) (srcAt 6 sw s x0 y0 px py dx0 dy0 sx0 sy0 r c)) p)) := by
  refine mdm0_of (by omega) Hd Hs GD GS hp hs m1 m2 m3 m4 m5 m6 ?_
  intro rx ry xe ye ax ay b0 b1 b2 b3 p0 p1 q0 q1 g hA S1 S2 hC hR hP
  have e : ∀ r c, srcP 6 sw s r c = s := fun r c => by unfold srcP; rw [if_pos rfl]
  cases S1
  case k0 S1 => exact dm_0_6 w S1 S2 (by omega) (fun r c => by rw [e]; exact hpm) hC hR
end Go.Proofs.YtgjpohmjkhgpfaaGreat

namespace Go.Proofs.YtgjpohmjkhgpfaaGreat
open Go.RowKit

/-- the rectangle behind the three cuts, a number of it -/
def ib (i : Nat) (x0 y0 x1 y1 d0 d1 d2 d3 s0 s1 s2 s3 : Int) : Int :=
  ia i (ia 0 x0 y0 x1 y1 d0 d1 d2 d3) (ia 1 x0 y0 x1 y1 d0 d1 d2 d3) (ia 2 x0 y0 x1 y1 d0 d1 d2 d3) (ia 3 x0 y0 x1 y1 d0 d1 d2 d3) s0 s1 s2 s3
def ic (i : Nat) (x0 y0 x1 y1 d0 d1 d2 d3 s0 s1 s2 s3 m0 m1 m2 m3 : Int) : Int :=
  ia i (ib 0 x0 y0 x1 y1 d0 d1 d2 d3 s0 s1 s2 s3) (ib 1 x0 y0 x1 y1 d0 d1 d2 d3 s0 s1 s2 s3) (ib 2 x0 y0 x1 y1 d0 d1 d2 d3 s0 s1 s2 s3) (ib 3 x0 y0 x1 y1 d0 d1 d2 d3 s0 s1 s2 s3) m0 m1 m2 m3
/-- clip, with a mask: what is asked, and the cut rectangle b with the points p and q -/
def Cl1 (x0 y0 x1 y1 px py qx qy d0 d1 d2 d3 s0 s1 s2 s3 m0 m1 m2 m3 b0 b1 b2 b3 p0 p1 q0 q1 : Int) : Prop :=
  (sm x0 ∧ sm y0 ∧ sm px ∧ sm py ∧ sm qx ∧ sm qy ∧ sm s0 ∧ sm s1 ∧ sm s2 ∧ sm s3 ∧ sm (x0 - px) ∧ sm (y0 - py) ∧ sm b0 ∧ sm b1) ∧
  (ic 0 x0 y0 x1 y1 d0 d1 d2 d3 (s0 + (x0 - px)) (s1 + (y0 - py)) (s2 + (x0 - px)) (s3 + (y0 - py)) (m0 + (x0 - qx)) (m1 + (y0 - qy)) (m2 + (x0 - qx)) (m3 + (y0 - qy)) = b0 ∧
   ic 1 x0 y0 x1 y1 d0 d1 d2 d3 (s0 + (x0 - px)) (s1 + (y0 - py)) (s2 + (x0 - px)) (s3 + (y0 - py)) (m0 + (x0 - qx)) (m1 + (y0 - qy)) (m2 + (x0 - qx)) (m3 + (y0 - qy)) = b1 ∧
   ic 2 x0 y0 x1 y1 d0 d1 d2 d3 (s0 + (x0 - px)) (s1 + (y0 - py)) (s2 + (x0 - px)) (s3 + (y0 - py)) (m0 + (x0 - qx)) (m1 + (y0 - qy)) (m2 + (x0 - qx)) (m3 + (y0 - qy)) = b2 ∧
   ic 3 x0 y0 x1 y1 d0 d1 d2 d3 (s0 + (x0 - px)) (s1 + (y0 - py)) (s2 + (x0 - px)) (s3 + (y0 - py)) (m0 + (x0 - qx)) (m1 + (y0 - qy)) (m2 + (x0 - qx)) (m3 + (y0 - qy)) = b3) ∧
  (px + (b0 - x0) = p0 ∧ py + (b1 - y0) = p1 ∧ qx + (b0 - x0) = q0 ∧ qy + (b1 - y0) = q1) ∧
  (sm m0 ∧ sm m1 ∧ sm m2 ∧ sm m3 ∧ sm (x0 - qx) ∧ sm (y0 - qy))
/-- the pixel (r, c) of the destination is drawn -/
def In1 (x0 y0 x1 y1 px py qx qy dx0 dy0 sx0 sy0 mx0 my0 : Int) (sh sw mh mw r c : Nat) : Prop :=
  In0 x0 y0 x1 y1 px py dx0 dy0 sx0 sy0 sh sw r c ∧ mx0 ≤ dx0 + c + (qx - x0) ∧ dx0 + c + (qx - x0) < mx0 + mw ∧ my0 ≤ dy0 + r + (qy - y0) ∧ dy0 + r + (qy - y0) < my0 + mh
set_option maxHeartbeats 2000000 in
theorem cut3 {x0 y0 x1 y1 d0 d1 d2 d3 s0 s1 s2 s3 m0 m1 m2 m3 b0 b1 b2 b3 : Int}
    (h0 : ic 0 x0 y0 x1 y1 d0 d1 d2 d3 s0 s1 s2 s3 m0 m1 m2 m3 = b0) (h1 : ic 1 x0 y0 x1 y1 d0 d1 d2 d3 s0 s1 s2 s3 m0 m1 m2 m3 = b1)
    (h2 : ic 2 x0 y0 x1 y1 d0 d1 d2 d3 s0 s1 s2 s3 m0 m1 m2 m3 = b2) (h3 : ic 3 x0 y0 x1 y1 d0 d1 d2 d3 s0 s1 s2 s3 m0 m1 m2 m3 = b3) :
    (emp b0 b1 b2 b3 = false → b0 = max (max (max x0 d0) s0) m0 ∧ b1 = max (max (max y0 d1) s1) m1 ∧ b2 = min (min (min x1 d2) s2) m2 ∧ b3 = min (min (min y1 d3) s3) m3) ∧
    (emp b0 b1 b2 b3 = true → min (min (min x1 d2) s2) m2 ≤ max (max (max x0 d0) s0) m0 ∨ min (min (min y1 d3) s3) m3 ≤ max (max (max y0 d1) s1) m1) := by
  unfold ic at h0 h1 h2 h3
  obtain ⟨c0, e0⟩ : ∃ c, ib 0 x0 y0 x1 y1 d0 d1 d2 d3 s0 s1 s2 s3 = c := ⟨_, rfl⟩
  obtain ⟨c1, e1⟩ : ∃ c, ib 1 x0 y0 x1 y1 d0 d1 d2 d3 s0 s1 s2 s3 = c := ⟨_, rfl⟩
  obtain ⟨c2, e2⟩ : ∃ c, ib 2 x0 y0 x1 y1 d0 d1 d2 d3 s0 s1 s2 s3 = c := ⟨_, rfl⟩
  obtain ⟨c3, e3⟩ : ∃ c, ib 3 x0 y0 x1 y1 d0 d1 d2 d3 s0 s1 s2 s3 = c := ⟨_, rfl⟩
  rw [e0, e1, e2, e3] at h0 h1 h2 h3
  obtain ⟨k1, k2⟩ := cut2 e0 e1 e2 e3
  clear e0 e1 e2 e3
  obtain ⟨X0, f0⟩ : ∃ c, max (max x0 d0) s0 = c := ⟨_, rfl⟩
  obtain ⟨X1, f1⟩ : ∃ c, max (max y0 d1) s1 = c := ⟨_, rfl⟩
  obtain ⟨X2, f2⟩ : ∃ c, min (min x1 d2) s2 = c := ⟨_, rfl⟩
  obtain ⟨X3, f3⟩ : ∃ c, min (min y1 d3) s3 = c := ⟨_, rfl⟩
  rw [f0, f1, f2, f3] at k1 k2 ⊢
  clear f0 f1 f2 f3
  cases e : emp (max c0 m0) (max c1 m1) (min c2 m2) (min c3 m3)
  · obtain ⟨a0, a1, a2, a3⟩ := ia_f e
    rw [a0] at h0; rw [a1] at h1; rw [a2] at h2; rw [a3] at h3
    have e' := emp_f.1 e
    obtain ⟨g0, g1, g2, g3⟩ := k1 (emp_f.2 (by omega))
    subst h0 h1 h2 h3
    rw [g0, g1, g2, g3]
    refine ⟨fun _ => ⟨rfl, rfl, rfl, rfl⟩, fun h => ?_⟩
    rw [g0, g1, g2, g3, h] at e
    cases e
  · rw [ia_t e] at h0 h1 h2 h3
    subst h0 h1 h2 h3
    refine ⟨fun h => by rw [emp_f] at h; omega, fun _ => ?_⟩
    have e' := emp_t.1 e
    cases f : emp c0 c1 c2 c3
    · obtain ⟨g0, g1, g2, g3⟩ := k1 f
      rw [g0, g1, g2, g3] at e'
      exact e'
    · have := k2 f
      omega

set_option maxHeartbeats 2000000 in
theorem cl1_geo {x0 y0 x1 y1 px py qx qy dx0 dy0 sx0 sy0 mx0 my0 b0 b1 b2 b3 p0 p1 q0 q1 : Int} {dh dw sh sw mh mw : Nat}
    (H : Cl1 x0 y0 x1 y1 px py qx qy dx0 dy0 (dx0 + dw) (dy0 + dh) sx0 sy0 (sx0 + sw) (sy0 + sh) mx0 my0 (mx0 + mw) (my0 + mh) b0 b1 b2 b3 p0 p1 q0 q1) (hE : emp b0 b1 b2 b3 = false) :
    ∃ rx ry xe ye sx sy mx my : Nat, Rct b0 b1 b2 b3 dx0 dy0 rx ry xe ye dh dw ∧ Plc p0 p1 sx0 sy0 sx sy rx ry xe ye sh sw ∧ Plc q0 q1 mx0 my0 mx my rx ry xe ye mh mw ∧
      (∀ r c : Nat, r < dh → c < dw → (inR rx xe ry ye r c ↔ In1 x0 y0 x1 y1 px py qx qy dx0 dy0 sx0 sy0 mx0 my0 sh sw mh mw r c)) ∧
      (∀ r c : Nat, inR rx xe ry ye r c → ((sy + (r - ry) : Nat) : Int) = dy0 + r + (py - y0) - sy0 ∧ ((sx + (c - rx) : Nat) : Int) = dx0 + c + (px - x0) - sx0 ∧
        ((my + (r - ry) : Nat) : Int) = dy0 + r + (qy - y0) - my0 ∧ ((mx + (c - rx) : Nat) : Int) = dx0 + c + (qx - x0) - mx0) := by
  obtain ⟨-, ⟨h0, h1, h2, h3⟩, ⟨f1, f2, f3, f4⟩, -⟩ := H
  obtain ⟨g0, g1, g2, g3⟩ := (cut3 h0 h1 h2 h3).1 hE
  obtain ⟨l1, l2⟩ := emp_f.1 hE
  clear h0 h1 h2 h3 hE
  have k0 : ∀ X : Int, b0 ≤ X ↔ (x0 ≤ X ∧ dx0 ≤ X ∧ sx0 + (x0 - px) ≤ X ∧ mx0 + (x0 - qx) ≤ X) := fun X => by rw [g0, Int.max_le, Int.max_le, Int.max_le, and_assoc, and_assoc]
  have k1 : ∀ X : Int, b1 ≤ X ↔ (y0 ≤ X ∧ dy0 ≤ X ∧ sy0 + (y0 - py) ≤ X ∧ my0 + (y0 - qy) ≤ X) := fun X => by rw [g1, Int.max_le, Int.max_le, Int.max_le, and_assoc, and_assoc]
  have k2 : ∀ X : Int, X < b2 ↔ (X < x1 ∧ X < dx0 + dw ∧ X < sx0 + sw + (x0 - px) ∧ X < mx0 + mw + (x0 - qx)) := fun X => by rw [g2, Int.lt_min, Int.lt_min, Int.lt_min, and_assoc, and_assoc]
  have k3 : ∀ X : Int, X < b3 ↔ (X < y1 ∧ X < dy0 + dh ∧ X < sy0 + sh + (y0 - py) ∧ X < my0 + mh + (y0 - qy)) := fun X => by rw [g3, Int.lt_min, Int.lt_min, Int.lt_min, and_assoc, and_assoc]
  clear g0 g1 g2 g3
  have a0 := (k0 b0).1 (Int.le_refl _)
  have a1 := (k1 b1).1 (Int.le_refl _)
  have a2 := (k2 (b2 - 1)).1 (by omega)
  have a3 := (k3 (b3 - 1)).1 (by omega)
  obtain ⟨rx, e0⟩ := Int.eq_ofNat_of_zero_le (show 0 ≤ b0 - dx0 by omega)
  obtain ⟨ry, e1⟩ := Int.eq_ofNat_of_zero_le (show 0 ≤ b1 - dy0 by omega)
  obtain ⟨xe, e2⟩ := Int.eq_ofNat_of_zero_le (show 0 ≤ b2 - dx0 by omega)
  obtain ⟨ye, e3⟩ := Int.eq_ofNat_of_zero_le (show 0 ≤ b3 - dy0 by omega)
  obtain ⟨sx, e4⟩ := Int.eq_ofNat_of_zero_le (show 0 ≤ p0 - sx0 by omega)
  obtain ⟨sy, e5⟩ := Int.eq_ofNat_of_zero_le (show 0 ≤ p1 - sy0 by omega)
  obtain ⟨mx, e6⟩ := Int.eq_ofNat_of_zero_le (show 0 ≤ q0 - mx0 by omega)
  obtain ⟨my, e7⟩ := Int.eq_ofNat_of_zero_le (show 0 ≤ q1 - my0 by omega)
  refine ⟨rx, ry, xe, ye, sx, sy, mx, my, ⟨e0, e1, e2, e3, by omega, by omega, by omega, by omega⟩, ⟨e4, e5, by omega, by omega⟩, ⟨e6, e7, by omega, by omega⟩, ?_, ?_⟩
  · intro r c hr hc
    have t0 := k0 (dx0 + c); have t1 := k1 (dy0 + r); have t2 := k2 (dx0 + c); have t3 := k3 (dy0 + r)
    clear k0 k1 k2 k3 a0 a1 a2 a3
    constructor
    · rintro ⟨i1, i2, i3, i4⟩
      have j0 := t0.1 (by omega); have j1 := t1.1 (by omega); have j2 := t2.1 (by omega); have j3 := t3.1 (by omega)
      exact ⟨⟨⟨j0.1, j2.1, j1.1, j3.1⟩, by omega, by omega, by omega, by omega⟩, by omega, by omega, by omega, by omega⟩
    · rintro ⟨⟨⟨i1, i2, i3, i4⟩, i5, i6, i7, i8⟩, i9, i10, i11, i12⟩
      have j0 := t0.2 ⟨i1, by omega, by omega, by omega⟩; have j1 := t1.2 ⟨i3, by omega, by omega, by omega⟩; have j2 := t2.2 ⟨i2, by omega, by omega, by omega⟩; have j3 := t3.2 ⟨i4, by omega, by omega, by omega⟩
      exact ⟨by omega, by omega, by omega, by omega⟩
  · rintro r c ⟨i1, i2, i3, i4⟩
    clear k0 k1 k2 k3 a0 a1 a2 a3
    refine ⟨?_, ?_, ?_, ?_⟩ <;> omega
set_option maxHeartbeats 2000000 in
theorem cl1_emp {x0 y0 x1 y1 px py qx qy dx0 dy0 sx0 sy0 mx0 my0 b0 b1 b2 b3 p0 p1 q0 q1 : Int} {dh dw sh sw mh mw : Nat}
    (H : Cl1 x0 y0 x1 y1 px py qx qy dx0 dy0 (dx0 + dw) (dy0 + dh) sx0 sy0 (sx0 + sw) (sy0 + sh) mx0 my0 (mx0 + mw) (my0 + mh) b0 b1 b2 b3 p0 p1 q0 q1) (hE : emp b0 b1 b2 b3 = true) :
    ∀ r c : Nat, r < dh → c < dw → ¬ In1 x0 y0 x1 y1 px py qx qy dx0 dy0 sx0 sy0 mx0 my0 sh sw mh mw r c := by
  obtain ⟨-, ⟨h0, h1, h2, h3⟩, -, -⟩ := H
  have := (cut3 h0 h1 h2 h3).2 hE
  intro r c hr hc hI
  unfold In1 In0 at hI
  rcases this with h | h
  · have hx : ¬ (dx0 + (c : Int) < dx0 + c) := by omega
    exact hx (Int.lt_of_lt_of_le (Int.lt_min.2 ⟨Int.lt_min.2 ⟨Int.lt_min.2 ⟨by omega, by omega⟩, by omega⟩, by omega⟩) (Int.le_trans h (Int.max_le.2 ⟨Int.max_le.2 ⟨Int.max_le.2 ⟨by omega, by omega⟩, by omega⟩, by omega⟩)))
  · have hx : ¬ (dy0 + (r : Int) < dy0 + r) := by omega
    exact hx (Int.lt_of_lt_of_le (Int.lt_min.2 ⟨Int.lt_min.2 ⟨Int.lt_min.2 ⟨by omega, by omega⟩, by omega⟩, by omega⟩) (Int.le_trans h (Int.max_le.2 ⟨Int.max_le.2 ⟨Int.max_le.2 ⟨by omega, by omega⟩, by omega⟩, by omega⟩)))
/-- a cut of small numbers is small -/
theorem ia_small {M x0 y0 x1 y1 u0 v0 u1 v1 : Int} (h0 : -M ≤ x0 ∧ x0 ≤ M) (h1 : -M ≤ y0 ∧ y0 ≤ M) (h2 : -M ≤ x1 ∧ x1 ≤ M) (h3 : -M ≤ y1 ∧ y1 ≤ M) (hM : 0 ≤ M) :
    (-M ≤ ia 0 x0 y0 x1 y1 u0 v0 u1 v1 ∧ ia 0 x0 y0 x1 y1 u0 v0 u1 v1 ≤ M) ∧ (-M ≤ ia 1 x0 y0 x1 y1 u0 v0 u1 v1 ∧ ia 1 x0 y0 x1 y1 u0 v0 u1 v1 ≤ M) ∧
    (-M ≤ ia 2 x0 y0 x1 y1 u0 v0 u1 v1 ∧ ia 2 x0 y0 x1 y1 u0 v0 u1 v1 ≤ M) ∧ (-M ≤ ia 3 x0 y0 x1 y1 u0 v0 u1 v1 ∧ ia 3 x0 y0 x1 y1 u0 v0 u1 v1 ≤ M) := by
  cases e : emp (max x0 u0) (max y0 v0) (min x1 u1) (min y1 v1)
  · obtain ⟨a0, a1, a2, a3⟩ := ia_f e
    rw [a0, a1, a2, a3]
    have := emp_f.1 e
    refine ⟨?_, ?_, ?_, ?_⟩ <;> omega
  · rw [ia_t e, ia_t e, ia_t e, ia_t e]
    refine ⟨?_, ?_, ?_, ?_⟩ <;> omega
set_option maxHeartbeats 2000000 in
/-- there is a cut rectangle, whatever the numbers, if they are small -/
theorem cl1_ex {x0 y0 x1 y1 px py qx qy d0 d1 d2 d3 s0 s1 s2 s3 m0 m1 m2 m3 : Int} (k1 : sm x0) (k2 : sm y0) (k3 : sm px) (k4 : sm py) (k5 : sm qx) (k6 : sm qy) (k7 : sm s0) (k8 : sm s1) (k9 : sm s2) (k10 : sm s3)
    (k11 : sm (x0 - px)) (k12 : sm (y0 - py)) (k17 : sm m0) (k18 : sm m1) (k19 : sm m2) (k20 : sm m3) (k21 : sm (x0 - qx)) (k22 : sm (y0 - qy)) (k23 : sm x1) (k24 : sm y1) :
    ∃ b0 b1 b2 b3 p0 p1 q0 q1, Cl1 x0 y0 x1 y1 px py qx qy d0 d1 d2 d3 s0 s1 s2 s3 m0 m1 m2 m3 b0 b1 b2 b3 p0 p1 q0 q1 := by
  unfold sm at *
  obtain ⟨a0, a1, a2, a3⟩ := ia_small (u0 := d0) (v0 := d1) (u1 := d2) (v1 := d3) k1 k2 k23 k24 (by omega)
  obtain ⟨b0, b1, b2, b3⟩ := ia_small (u0 := s0 + (x0 - px)) (v0 := s1 + (y0 - py)) (u1 := s2 + (x0 - px)) (v1 := s3 + (y0 - py)) a0 a1 a2 a3 (by omega)
  obtain ⟨c0, c1, -, -⟩ := ia_small (u0 := m0 + (x0 - qx)) (v0 := m1 + (y0 - qy)) (u1 := m2 + (x0 - qx)) (v1 := m3 + (y0 - qy)) b0 b1 b2 b3 (by omega)
  exact ⟨_, _, _, _, _, _, _, _, ⟨k1, k2, k3, k4, k5, k6, k7, k8, k9, k10, k11, k12, c0, c1⟩, ⟨rfl, rfl, rfl, rfl⟩, ⟨rfl, rfl, rfl, rfl⟩, k17, k18, k19, k20, k21, k22⟩
end Go.Proofs.YtgjpohmjkhgpfaaGreat

namespace Go.Proofs.YtgjpohmjkhgpfaaGreat
open Go.RowKit

set_option maxRecDepth 100000 in
set_option maxHeartbeats 8000000 in
theorem clip1_c {w0 w : World} {br bp bq : Nat} {td ts : TypeId} {vd vs : Value} {x0 y0 x1 y1 px py qx qy d0 d1 d2 d3 s0 s1 s2 s3 a0 a1 a2 a3 b0 b1 b2 b3 c0 c1 c2 c3 : Int} {tm : TypeId} {vm : Value} {m0 m1 m2 m3 : Int}
    (hg0 : w0.grownBy w none) (hbr : w0.heap.size ≤ br) (hbp : w0.heap.size ≤ bp) (hbq : w0.heap.size ≤ bq) (n1 : br ≠ bp) (n2 : br ≠ bq) (n3 : bp ≠ bq)
    (hd : Bd w0 td vd d0 d1 d2 d3) (hs : Bd w0 ts vs s0 s1 s2 s3) (hc : Cp w br bp bq x0 y0 x1 y1 px py qx qy)
    (sx0 : sm x0) (sy0 : sm y0) (spx : sm px) (spy : sm py) (sqx : sm qx) (sqy : sm qy) (ss0 : sm s0) (ss1 : sm s1) (ss2 : sm s2) (ss3 : sm s3) (sd0 : sm (x0 - px)) (sd1 : sm (y0 - py)) (hm : Bd w0 tm vm m0 m1 m2 m3) (sm0 : sm m0) (sm1 : sm m1) (sm2 : sm m2) (sm3 : sm m3) (sq0 : sm (x0 - qx)) (sq1 : sm (y0 - qy))
    (ha0 : ia 0 x0 y0 x1 y1 d0 d1 d2 d3 = a0) (ha1 : ia 1 x0 y0 x1 y1 d0 d1 d2 d3 = a1) (ha2 : ia 2 x0 y0 x1 y1 d0 d1 d2 d3 = a2) (ha3 : ia 3 x0 y0 x1 y1 d0 d1 d2 d3 = a3)
    (hb0 : ia 0 a0 a1 a2 a3 (s0 + (x0 - px)) (s1 + (y0 - py)) (s2 + (x0 - px)) (s3 + (y0 - py)) = b0) (hb1 : ia 1 a0 a1 a2 a3 (s0 + (x0 - px)) (s1 + (y0 - py)) (s2 + (x0 - px)) (s3 + (y0 - py)) = b1)
    (hb2 : ia 2 a0 a1 a2 a3 (s0 + (x0 - px)) (s1 + (y0 - py)) (s2 + (x0 - px)) (s3 + (y0 - py)) = b2) (hb3 : ia 3 a0 a1 a2 a3 (s0 + (x0 - px)) (s1 + (y0 - py)) (s2 + (x0 - px)) (s3 + (y0 - py)) = b3)
    (hc0 : ia 0 b0 b1 b2 b3 (m0 + (x0 - qx)) (m1 + (y0 - qy)) (m2 + (x0 - qx)) (m3 + (y0 - qy)) = c0) (hc1 : ia 1 b0 b1 b2 b3 (m0 + (x0 - qx)) (m1 + (y0 - qy)) (m2 + (x0 - qx)) (m3 + (y0 - qy)) = c1)
    (hc2 : ia 2 b0 b1 b2 b3 (m0 + (x0 - qx)) (m1 + (y0 - qy)) (m2 + (x0 - qx)) (m3 + (y0 - qy)) = c2) (hc3 : ia 3 b0 b1 b2 b3 (m0 + (x0 - qx)) (m1 + (y0 - qy)) (m2 + (x0 - qx)) (m3 + (y0 - qy)) = c3)
    (sr0 : sm c0) (sr1 : sm c1) :
    Calls Tryz.prog 48 #[.iface td vd, .pointer (some ⟨br, 0, none⟩), .iface ts vs, .pointer (some ⟨bp, 0, none⟩), .iface tm vm, .pointer (some ⟨bq, 0, none⟩)] w fun e w' =>
      e = .returned (.tuple #[]) ∧ w0.grownBy w' none ∧ Cp w' br bp bq c0 c1 c2 c3 (px + (c0 - x0)) (py + (c1 - y0)) (qx + (c0 - x0)) (qy + (c1 - y0)) := by
  obtain ⟨f, hF, hf, hf2⟩ := hd
  obtain ⟨g, hG, hgm, hg2⟩ := hs
  obtain ⟨h, hH, hhm, hh2⟩ := hm
  have Hc0 := hid hc
  obtain ⟨c0', c1', c2', c3', p0, p1, q0, q1, fr, fp, fq⟩ := hc
  have lr : br < w.heap.size := World.block_lt_of_cell? w _ c0'
  have lp : bp < w.heap.size := World.block_lt_of_cell? w _ p0
  have lq : bq < w.heap.size := World.block_lt_of_cell? w _ q0
  have n4 : br ≠ w.heap.size := Nat.ne_of_lt lr
  unfold Fn at hF hG hH
  have Ha := hid (And.intro ha0 (And.intro ha1 (And.intro ha2 ha3)))
  have Hb := hid (And.intro hb0 (And.intro hb1 (And.intro hb2 hb3)))
  have Hc := hid (And.intro hc0 (And.intro hc1 (And.intro hc2 hc3)))
  clear ha0 ha1 ha2 ha3 hb0 hb1 hb2 hb3 hc0 hc1 hc2 hc3
  go_enter Tryz.func48, Tryz.ntmps48
  go_upto_region 1 with fail
  obtain ⟨wz, hwz⟩ : ∃ wz : World, wz = (w.alloc (.cells #[.int .i64 x0, .int .i64 y0] 76)) := ⟨_, rfl⟩
  rw [← hwz]
  have hgz : w.grownBy wz none := by rw [hwz]; exact gb_alloc (gb_refl _ _) _
  have HO : Hid (wz.cell? ⟨w.heap.size, 0, none⟩ = some (.int .i64 x0) ∧ wz.cell? ⟨w.heap.size, 1, none⟩ = some (.int .i64 y0)) := by rw [hwz]; exact hid ⟨by go_simp, by go_simp⟩
  have HZ : Hid (w.heap.size < wz.heap.size) := by rw [hwz]; exact hid (by simp)
  have HG := hid (gb_trans hg0 hgz)
  have HC := hid (Hc0.out.grown hgz)
  clear hwz hg0 hgz c0' c1' c2' c3' p0 p1 q0 q1 fr fp fq lr lp lq Hc0
  refine wp_region_inv (JL wz [some (.pointer (some ⟨br, 0, none⟩)), some (.pointer (some ⟨br, 0, none⟩)), some (.pointer (some ⟨br, 0, none⟩)), some (vR x0 y0 x1 y1), some (.iface td vd), some (vR d0 d1 d2 d3), some (vR a0 a1 a2 a3), some (.pointer (some ⟨br, 0, none⟩)), none] [(2, 1), (3, 2), (5, 4), (6, 3), (6, 5), (7, 0), (8, 6), (8, 7)] 8 (fun wx => w0.grownBy wx none ∧ w.heap.size < wx.heap.size ∧ Cp wx br bp bq a0 a1 a2 a3 px py qx qy ∧ wx.cell? ⟨w.heap.size, 0, none⟩ = some (.int .i64 x0) ∧ wx.cell? ⟨w.heap.size, 1, none⟩ = some (.int .i64 y0))) (fun _ => undef) (by kernel_rfl) (by kernel_rfl) [(0, 19), (1, 20), (2, 21), (3, 22), (4, 23), (5, 24), (6, 25), (7, 26)] (by kernel_rfl) (JL.start (by (repeat (first | exact gb_refl _ _ | assumption | refine gb_drew ?_ | refine gb_drewN ?_ _ | refine gb_alloc ?_ _ | refine gb_setCell ?_ (.inr (by simp <;> omega)) _))) (by kernel_rfl)) ?_ ?_
  · refine Steps'.cons [] (by kernel_rfl) ?_ (Steps'.cons [] (by kernel_rfl) ?_ (Steps'.cons [(1, 20)] (by kernel_rfl) ?_ (Steps'.cons [(2, 21)] (by kernel_rfl) ?_ (Steps'.cons [] (by kernel_rfl) ?_ (Steps'.cons [(4, 23)] (by kernel_rfl) ?_ (Steps'.cons [(3, 22), (5, 24)] (by kernel_rfl) ?_ (Steps'.cons [(0, 19)] (by kernel_rfl) ?_ (Steps'.cons [(6, 25), (7, 26)] (by kernel_rfl) ?_ (Steps'.nil)))))))))
    · intro l t w7 hJ hl hd bb hbb K hK
      have hgw := hJ.gb hl (by decide)
      have hE : ∀ p : Nat × Nat, p ∈ ([(2, 1), (3, 2), (5, 4), (6, 3), (6, 5), (7, 0), (8, 6), (8, 7)] : List (Nat × Nat)) → p.1 = 0 → l p.2 = true := by
        intro p hp e
        simp only [List.mem_cons, List.not_mem_nil, or_false] at hp
        rcases hp with rfl | rfl | rfl | rfl | rfl | rfl | rfl | rfl <;> exact absurd e (by decide)
      simp only [puts, Act.put, List.setIfInBounds_toArray, List.set_cons_zero, List.set_cons_succ] at hbb
      subst hbb
      go_simp
      exact hK.out _ _ (hJ.pure hl (by decide) hE (gb_refl _ _) rfl)
    · intro l t w7 hJ hl hd bb hbb K hK
      have hgw := hJ.gb hl (by decide)
      have hE : ∀ p : Nat × Nat, p ∈ ([(2, 1), (3, 2), (5, 4), (6, 3), (6, 5), (7, 0), (8, 6), (8, 7)] : List (Nat × Nat)) → p.1 = 1 → l p.2 = true := by
        intro p hp e
        simp only [List.mem_cons, List.not_mem_nil, or_false] at hp
        rcases hp with rfl | rfl | rfl | rfl | rfl | rfl | rfl | rfl <;> exact absurd e (by decide)
      simp only [puts, Act.put, List.setIfInBounds_toArray, List.set_cons_zero, List.set_cons_succ] at hbb
      subst hbb
      go_simp
      exact hK.out _ _ (hJ.pure hl (by decide) hE (gb_refl _ _) rfl)
    · intro l t w7 hJ hl hd bb hbb K hK
      have hgw := hJ.gb hl (by decide)
      have hE : ∀ p : Nat × Nat, p ∈ ([(2, 1), (3, 2), (5, 4), (6, 3), (6, 5), (7, 0), (8, 6), (8, 7)] : List (Nat × Nat)) → p.1 = 2 → l p.2 = true := by
        intro p hp e
        simp only [List.mem_cons, List.not_mem_nil, or_false] at hp
        rcases hp with rfl | rfl | rfl | rfl | rfl | rfl | rfl | rfl
        · exact hd 1 (by kernel_rfl)
        · exact absurd e (by decide)
        · exact absurd e (by decide)
        · exact absurd e (by decide)
        · exact absurd e (by decide)
        · exact absurd e (by decide)
        · exact absurd e (by decide)
        · exact absurd e (by decide)
      have e1 := hJ.val 1 _ rfl (hd 1 (by kernel_rfl))
      simp only [puts, Act.put, List.setIfInBounds_toArray, List.set_cons_zero, List.set_cons_succ] at hbb
      rw [e1] at hbb
      subst hbb
      go_simp
      exact hK.out _ _ (hJ.pure hl (by decide) hE (gb_refl _ _) rfl)
    · intro l t w7 hJ hl hd bb hbb K hK
      have hgw := hJ.gb hl (by decide)
      have hE : ∀ p : Nat × Nat, p ∈ ([(2, 1), (3, 2), (5, 4), (6, 3), (6, 5), (7, 0), (8, 6), (8, 7)] : List (Nat × Nat)) → p.1 = 3 → l p.2 = true := by
        intro p hp e
        simp only [List.mem_cons, List.not_mem_nil, or_false] at hp
        rcases hp with rfl | rfl | rfl | rfl | rfl | rfl | rfl | rfl
        · exact absurd e (by decide)
        · exact hd 2 (by kernel_rfl)
        · exact absurd e (by decide)
        · exact absurd e (by decide)
        · exact absurd e (by decide)
        · exact absurd e (by decide)
        · exact absurd e (by decide)
        · exact absurd e (by decide)
      obtain ⟨c0, c1, c2, c3, k0, k1, l0, l1, -, -, -⟩ := HC.out.grown hgw
      have e2 := hJ.val 2 _ rfl (hd 2 (by kernel_rfl))
      simp only [puts, Act.put, List.setIfInBounds_toArray, List.set_cons_zero, List.set_cons_succ] at hbb
      rw [e2] at hbb
      subst hbb
      go_simp
      exact hK.out _ _ (hJ.pure hl (by decide) hE (gb_refl _ _) rfl)
    · intro l t w7 hJ hl hd bb hbb K hK
      have hgw := hJ.gb hl (by decide)
      have hE : ∀ p : Nat × Nat, p ∈ ([(2, 1), (3, 2), (5, 4), (6, 3), (6, 5), (7, 0), (8, 6), (8, 7)] : List (Nat × Nat)) → p.1 = 4 → l p.2 = true := by
        intro p hp e
        simp only [List.mem_cons, List.not_mem_nil, or_false] at hp
        rcases hp with rfl | rfl | rfl | rfl | rfl | rfl | rfl | rfl <;> exact absurd e (by decide)
      simp only [puts, Act.put, List.setIfInBounds_toArray, List.set_cons_zero, List.set_cons_succ] at hbb
      subst hbb
      go_simp
      exact hK.out _ _ (hJ.pure hl (by decide) hE (gb_refl _ _) rfl)
    · intro l t w7 hJ hl hd bb hbb K hK
      have hgw := hJ.gb hl (by decide)
      have hE : ∀ p : Nat × Nat, p ∈ ([(2, 1), (3, 2), (5, 4), (6, 3), (6, 5), (7, 0), (8, 6), (8, 7)] : List (Nat × Nat)) → p.1 = 5 → l p.2 = true := by
        intro p hp e
        simp only [List.mem_cons, List.not_mem_nil, or_false] at hp
        rcases hp with rfl | rfl | rfl | rfl | rfl | rfl | rfl | rfl
        · exact absurd e (by decide)
        · exact absurd e (by decide)
        · exact hd 4 (by kernel_rfl)
        · exact absurd e (by decide)
        · exact absurd e (by decide)
        · exact absurd e (by decide)
        · exact absurd e (by decide)
        · exact absurd e (by decide)
      have e4 := hJ.val 4 _ rfl (hd 4 (by kernel_rfl))
      simp only [puts, Act.put, List.setIfInBounds_toArray, List.set_cons_zero, List.set_cons_succ] at hbb
      rw [e4] at hbb
      subst hbb
      go_simp
      refine (hf2 _ (gb_trans HG.out hgw)).mono ?_
      rintro e w8 ⟨rfl, hg⟩
      exact hK.out _ _ (hJ.pure hl (by decide) hE hg rfl)
    · intro l t w7 hJ hl hd bb hbb K hK
      have hgw := hJ.gb hl (by decide)
      have hE : ∀ p : Nat × Nat, p ∈ ([(2, 1), (3, 2), (5, 4), (6, 3), (6, 5), (7, 0), (8, 6), (8, 7)] : List (Nat × Nat)) → p.1 = 6 → l p.2 = true := by
        intro p hp e
        simp only [List.mem_cons, List.not_mem_nil, or_false] at hp
        rcases hp with rfl | rfl | rfl | rfl | rfl | rfl | rfl | rfl
        · exact absurd e (by decide)
        · exact absurd e (by decide)
        · exact absurd e (by decide)
        · exact hd 3 (by kernel_rfl)
        · exact hd 5 (by kernel_rfl)
        · exact absurd e (by decide)
        · exact absurd e (by decide)
        · exact absurd e (by decide)
      have e3 := hJ.val 3 _ rfl (hd 3 (by kernel_rfl))
      have e5 := hJ.val 5 _ rfl (hd 5 (by kernel_rfl))
      simp only [puts, Act.put, List.setIfInBounds_toArray, List.set_cons_zero, List.set_cons_succ] at hbb
      rw [e3] at hbb
      rw [e5] at hbb
      subst hbb
      go_simp
      refine (intersect_c x0 y0 x1 y1 d0 d1 d2 d3 _).mono ?_
      rintro e w8 ⟨rfl, hg⟩
      rw [isec_ia, Ha.out.1, Ha.out.2.1, Ha.out.2.2.1, Ha.out.2.2.2]
      exact hK.out _ _ (hJ.pure hl (by decide) hE hg rfl)
    · intro l t w7 hJ hl hd bb hbb K hK
      have hgw := hJ.gb hl (by decide)
      have hE : ∀ p : Nat × Nat, p ∈ ([(2, 1), (3, 2), (5, 4), (6, 3), (6, 5), (7, 0), (8, 6), (8, 7)] : List (Nat × Nat)) → p.1 = 7 → l p.2 = true := by
        intro p hp e
        simp only [List.mem_cons, List.not_mem_nil, or_false] at hp
        rcases hp with rfl | rfl | rfl | rfl | rfl | rfl | rfl | rfl
        · exact absurd e (by decide)
        · exact absurd e (by decide)
        · exact absurd e (by decide)
        · exact absurd e (by decide)
        · exact absurd e (by decide)
        · exact hd 0 (by kernel_rfl)
        · exact absurd e (by decide)
        · exact absurd e (by decide)
      have e0 := hJ.val 0 _ rfl (hd 0 (by kernel_rfl))
      simp only [puts, Act.put, List.setIfInBounds_toArray, List.set_cons_zero, List.set_cons_succ] at hbb
      rw [e0] at hbb
      subst hbb
      go_simp
      exact hK.out _ _ (hJ.pure hl (by decide) hE (gb_refl _ _) rfl)
    · intro l t w7 hJ hl hd bb hbb K hK
      have hgw := hJ.gb hl (by decide)
      have hE : ∀ p : Nat × Nat, p ∈ ([(2, 1), (3, 2), (5, 4), (6, 3), (6, 5), (7, 0), (8, 6), (8, 7)] : List (Nat × Nat)) → p.1 = 8 → l p.2 = true := by
        intro p hp e
        simp only [List.mem_cons, List.not_mem_nil, or_false] at hp
        rcases hp with rfl | rfl | rfl | rfl | rfl | rfl | rfl | rfl
        · exact absurd e (by decide)
        · exact absurd e (by decide)
        · exact absurd e (by decide)
        · exact absurd e (by decide)
        · exact absurd e (by decide)
        · exact absurd e (by decide)
        · exact hd 6 (by kernel_rfl)
        · exact hd 7 (by kernel_rfl)
      obtain ⟨c0, c1, c2, c3, k0, k1, l0, l1, fr, fp, fq⟩ := HC.out.grown hgw
      have e6 := hJ.val 6 _ rfl (hd 6 (by kernel_rfl))
      have e7 := hJ.val 7 _ rfl (hd 7 (by kernel_rfl))
      simp only [puts, Act.put, List.setIfInBounds_toArray, List.set_cons_zero, List.set_cons_succ] at hbb
      rw [e6] at hbb
      rw [e7] at hbb
      subst hbb
      go_simp
      exact hK.out undef _ (hJ.last hE rfl (cp_step HG.out hgw hbr HC.out n1 n2 n4 HZ.out HO.out.1 HO.out.2) undef)
  intro l t wc hJ hl
  have hcut := hJ.done (hl 8 (by decide))
  clear hJ hl
  simp only [puts, Act.put, List.setIfInBounds_toArray, List.set_cons_zero, List.set_cons_succ]
  obtain ⟨hg1, hz1, hc1, o0, o1⟩ := hcut
  clear HO HZ HG HC
  have HO := hid (And.intro o0 o1)
  have HZ := hid hz1
  have HG := hid hg1
  have HC := hid hc1
  clear o0 o1 hz1 hg1 hc1
  obtain ⟨wz, hwz⟩ : ∃ wz : World, wz = wc := ⟨_, rfl⟩
  rw [← hwz]
  rw [← hwz] at HO HZ HG HC
  clear hwz wc
  go_upto_region 2 with fail
  refine wp_region_inv (JL wz [some (.pointer (some ⟨br, 0, none⟩)), some (.pointer (some ⟨br, 0, none⟩)), some (.pointer (some ⟨br, 0, none⟩)), some (vR a0 a1 a2 a3), some (.iface ts vs), some (vR s0 s1 s2 s3), some (vP x0 y0), some (.pointer (some ⟨bp, 0, none⟩)), some (.pointer (some ⟨bp, 0, none⟩)), some (vP px py), some (vP (x0 - px) (y0 - py)), some (vR (s0 + (x0 - px)) (s1 + (y0 - py)) (s2 + (x0 - px)) (s3 + (y0 - py))), some (vR b0 b1 b2 b3), some (.pointer (some ⟨br, 0, none⟩)), none] [(2, 1), (3, 2), (5, 4), (8, 7), (9, 8), (10, 6), (10, 9), (11, 5), (11, 10), (12, 3), (12, 11), (13, 0), (14, 12), (14, 13)] 14 (fun wx => w0.grownBy wx none ∧ w.heap.size < wx.heap.size ∧ Cp wx br bp bq b0 b1 b2 b3 px py qx qy ∧ wx.cell? ⟨w.heap.size, 0, none⟩ = some (.int .i64 x0) ∧ wx.cell? ⟨w.heap.size, 1, none⟩ = some (.int .i64 y0))) (fun _ => undef) (by kernel_rfl) (by kernel_rfl) [(0, 27), (1, 28), (2, 29), (3, 30), (4, 31), (5, 32), (6, 33), (7, 34), (8, 35), (9, 36), (10, 37), (11, 38), (12, 39), (13, 40)] (by kernel_rfl) (JL.start (by (repeat (first | exact gb_refl _ _ | assumption | refine gb_drew ?_ | refine gb_drewN ?_ _ | refine gb_alloc ?_ _ | refine gb_setCell ?_ (.inr (by simp <;> omega)) _))) (by kernel_rfl)) ?_ ?_
  · refine Steps'.cons [] (by kernel_rfl) ?_ (Steps'.cons [] (by kernel_rfl) ?_ (Steps'.cons [(1, 28)] (by kernel_rfl) ?_ (Steps'.cons [(2, 29)] (by kernel_rfl) ?_ (Steps'.cons [] (by kernel_rfl) ?_ (Steps'.cons [(4, 31)] (by kernel_rfl) ?_ (Steps'.cons [] (by kernel_rfl) ?_ (Steps'.cons [] (by kernel_rfl) ?_ (Steps'.cons [(7, 34)] (by kernel_rfl) ?_ (Steps'.cons [(8, 35)] (by kernel_rfl) ?_ (Steps'.cons [(6, 33), (9, 36)] (by kernel_rfl) ?_ (Steps'.cons [(5, 32), (10, 37)] (by kernel_rfl) ?_ (Steps'.cons [(3, 30), (11, 38)] (by kernel_rfl) ?_ (Steps'.cons [(0, 27)] (by kernel_rfl) ?_ (Steps'.cons [(12, 39), (13, 40)] (by kernel_rfl) ?_ (Steps'.nil)))))))))))))))
    · intro l t w7 hJ hl hd bb hbb K hK
      have hgw := hJ.gb hl (by decide)
      have hE : ∀ p : Nat × Nat, p ∈ ([(2, 1), (3, 2), (5, 4), (8, 7), (9, 8), (10, 6), (10, 9), (11, 5), (11, 10), (12, 3), (12, 11), (13, 0), (14, 12), (14, 13)] : List (Nat × Nat)) → p.1 = 0 → l p.2 = true := by
        intro p hp e
        simp only [List.mem_cons, List.not_mem_nil, or_false] at hp
        rcases hp with rfl | rfl | rfl | rfl | rfl | rfl | rfl | rfl | rfl | rfl | rfl | rfl | rfl | rfl <;> exact absurd e (by decide)
      simp only [puts, Act.put, List.setIfInBounds_toArray, List.set_cons_zero, List.set_cons_succ] at hbb
      subst hbb
      go_simp
      exact hK.out _ _ (hJ.pure hl (by decide) hE (gb_refl _ _) rfl)
    · intro l t w7 hJ hl hd bb hbb K hK
      have hgw := hJ.gb hl (by decide)
      have hE : ∀ p : Nat × Nat, p ∈ ([(2, 1), (3, 2), (5, 4), (8, 7), (9, 8), (10, 6), (10, 9), (11, 5), (11, 10), (12, 3), (12, 11), (13, 0), (14, 12), (14, 13)] : List (Nat × Nat)) → p.1 = 1 → l p.2 = true := by
        intro p hp e
        simp only [List.mem_cons, List.not_mem_nil, or_false] at hp
        rcases hp with rfl | rfl | rfl | rfl | rfl | rfl | rfl | rfl | rfl | rfl | rfl | rfl | rfl | rfl <;> exact absurd e (by decide)
      simp only [puts, Act.put, List.setIfInBounds_toArray, List.set_cons_zero, List.set_cons_succ] at hbb
      subst hbb
      go_simp
      exact hK.out _ _ (hJ.pure hl (by decide) hE (gb_refl _ _) rfl)
    · intro l t w7 hJ hl hd bb hbb K hK
      have hgw := hJ.gb hl (by decide)
      have hE : ∀ p : Nat × Nat, p ∈ ([(2, 1), (3, 2), (5, 4), (8, 7), (9, 8), (10, 6), (10, 9), (11, 5), (11, 10), (12, 3), (12, 11), (13, 0), (14, 12), (14, 13)] : List (Nat × Nat)) → p.1 = 2 → l p.2 = true := by
        intro p hp e
        simp only [List.mem_cons, List.not_mem_nil, or_false] at hp
        rcases hp with rfl | rfl | rfl | rfl | rfl | rfl | rfl | rfl | rfl | rfl | rfl | rfl | rfl | rfl
        · exact hd 1 (by kernel_rfl)
        · exact absurd e (by decide)
        · exact absurd e (by decide)
        · exact absurd e (by decide)
        · exact absurd e (by decide)
        · exact absurd e (by decide)
        · exact absurd e (by decide)
        · exact absurd e (by decide)
        · exact absurd e (by decide)
        · exact absurd e (by decide)
        · exact absurd e (by decide)
        · exact absurd e (by decide)
        · exact absurd e (by decide)
        · exact absurd e (by decide)
      have e1 := hJ.val 1 _ rfl (hd 1 (by kernel_rfl))
      simp only [puts, Act.put, List.setIfInBounds_toArray, List.set_cons_zero, List.set_cons_succ] at hbb
      rw [e1] at hbb
      subst hbb
      go_simp
      exact hK.out _ _ (hJ.pure hl (by decide) hE (gb_refl _ _) rfl)
    · intro l t w7 hJ hl hd bb hbb K hK
      have hgw := hJ.gb hl (by decide)
      have hE : ∀ p : Nat × Nat, p ∈ ([(2, 1), (3, 2), (5, 4), (8, 7), (9, 8), (10, 6), (10, 9), (11, 5), (11, 10), (12, 3), (12, 11), (13, 0), (14, 12), (14, 13)] : List (Nat × Nat)) → p.1 = 3 → l p.2 = true := by
        intro p hp e
        simp only [List.mem_cons, List.not_mem_nil, or_false] at hp
        rcases hp with rfl | rfl | rfl | rfl | rfl | rfl | rfl | rfl | rfl | rfl | rfl | rfl | rfl | rfl
        · exact absurd e (by decide)
        · exact hd 2 (by kernel_rfl)
        · exact absurd e (by decide)
        · exact absurd e (by decide)
        · exact absurd e (by decide)
        · exact absurd e (by decide)
        · exact absurd e (by decide)
        · exact absurd e (by decide)
        · exact absurd e (by decide)
        · exact absurd e (by decide)
        · exact absurd e (by decide)
        · exact absurd e (by decide)
        · exact absurd e (by decide)
        · exact absurd e (by decide)
      obtain ⟨c0, c1, c2, c3, k0, k1, l0, l1, -, -, -⟩ := HC.out.grown hgw
      have e2 := hJ.val 2 _ rfl (hd 2 (by kernel_rfl))
      simp only [puts, Act.put, List.setIfInBounds_toArray, List.set_cons_zero, List.set_cons_succ] at hbb
      rw [e2] at hbb
      subst hbb
      go_simp
      exact hK.out _ _ (hJ.pure hl (by decide) hE (gb_refl _ _) rfl)
    · intro l t w7 hJ hl hd bb hbb K hK
      have hgw := hJ.gb hl (by decide)
      have hE : ∀ p : Nat × Nat, p ∈ ([(2, 1), (3, 2), (5, 4), (8, 7), (9, 8), (10, 6), (10, 9), (11, 5), (11, 10), (12, 3), (12, 11), (13, 0), (14, 12), (14, 13)] : List (Nat × Nat)) → p.1 = 4 → l p.2 = true := by
        intro p hp e
        simp only [List.mem_cons, List.not_mem_nil, or_false] at hp
        rcases hp with rfl | rfl | rfl | rfl | rfl | rfl | rfl | rfl | rfl | rfl | rfl | rfl | rfl | rfl <;> exact absurd e (by decide)
      simp only [puts, Act.put, List.setIfInBounds_toArray, List.set_cons_zero, List.set_cons_succ] at hbb
      subst hbb
      go_simp
      exact hK.out _ _ (hJ.pure hl (by decide) hE (gb_refl _ _) rfl)
    · intro l t w7 hJ hl hd bb hbb K hK
      have hgw := hJ.gb hl (by decide)
      have hE : ∀ p : Nat × Nat, p ∈ ([(2, 1), (3, 2), (5, 4), (8, 7), (9, 8), (10, 6), (10, 9), (11, 5), (11, 10), (12, 3), (12, 11), (13, 0), (14, 12), (14, 13)] : List (Nat × Nat)) → p.1 = 5 → l p.2 = true := by
        intro p hp e
        simp only [List.mem_cons, List.not_mem_nil, or_false] at hp
        rcases hp with rfl | rfl | rfl | rfl | rfl | rfl | rfl | rfl | rfl | rfl | rfl | rfl | rfl | rfl
        · exact absurd e (by decide)
        · exact absurd e (by decide)
        · exact hd 4 (by kernel_rfl)
        · exact absurd e (by decide)
        · exact absurd e (by decide)
        · exact absurd e (by decide)
        · exact absurd e (by decide)
        · exact absurd e (by decide)
        · exact absurd e (by decide)
        · exact absurd e (by decide)
        · exact absurd e (by decide)
        · exact absurd e (by decide)
        · exact absurd e (by decide)
        · exact absurd e (by decide)
      have e4 := hJ.val 4 _ rfl (hd 4 (by kernel_rfl))
      simp only [puts, Act.put, List.setIfInBounds_toArray, List.set_cons_zero, List.set_cons_succ] at hbb
      rw [e4] at hbb
      subst hbb
      go_simp
      refine (hg2 _ (gb_trans HG.out hgw)).mono ?_
      rintro e w8 ⟨rfl, hg⟩
      exact hK.out _ _ (hJ.pure hl (by decide) hE hg rfl)
    · intro l t w7 hJ hl hd bb hbb K hK
      have hgw := hJ.gb hl (by decide)
      have hE : ∀ p : Nat × Nat, p ∈ ([(2, 1), (3, 2), (5, 4), (8, 7), (9, 8), (10, 6), (10, 9), (11, 5), (11, 10), (12, 3), (12, 11), (13, 0), (14, 12), (14, 13)] : List (Nat × Nat)) → p.1 = 6 → l p.2 = true := by
        intro p hp e
        simp only [List.mem_cons, List.not_mem_nil, or_false] at hp
        rcases hp with rfl | rfl | rfl | rfl | rfl | rfl | rfl | rfl | rfl | rfl | rfl | rfl | rfl | rfl <;> exact absurd e (by decide)
      have o0 := (gb_cell0 hgw HZ.out).trans HO.out.1
      have o1 := (gb_cell0 hgw (p := ⟨w.heap.size, 1, none⟩) HZ.out).trans HO.out.2
      simp only [puts, Act.put, List.setIfInBounds_toArray, List.set_cons_zero, List.set_cons_succ] at hbb
      subst hbb
      go_simp
      exact hK.out _ _ (hJ.pure hl (by decide) hE (gb_refl _ _) rfl)
    · intro l t w7 hJ hl hd bb hbb K hK
      have hgw := hJ.gb hl (by decide)
      have hE : ∀ p : Nat × Nat, p ∈ ([(2, 1), (3, 2), (5, 4), (8, 7), (9, 8), (10, 6), (10, 9), (11, 5), (11, 10), (12, 3), (12, 11), (13, 0), (14, 12), (14, 13)] : List (Nat × Nat)) → p.1 = 7 → l p.2 = true := by
        intro p hp e
        simp only [List.mem_cons, List.not_mem_nil, or_false] at hp
        rcases hp with rfl | rfl | rfl | rfl | rfl | rfl | rfl | rfl | rfl | rfl | rfl | rfl | rfl | rfl <;> exact absurd e (by decide)
      simp only [puts, Act.put, List.setIfInBounds_toArray, List.set_cons_zero, List.set_cons_succ] at hbb
      subst hbb
      go_simp
      exact hK.out _ _ (hJ.pure hl (by decide) hE (gb_refl _ _) rfl)
    · intro l t w7 hJ hl hd bb hbb K hK
      have hgw := hJ.gb hl (by decide)
      have hE : ∀ p : Nat × Nat, p ∈ ([(2, 1), (3, 2), (5, 4), (8, 7), (9, 8), (10, 6), (10, 9), (11, 5), (11, 10), (12, 3), (12, 11), (13, 0), (14, 12), (14, 13)] : List (Nat × Nat)) → p.1 = 8 → l p.2 = true := by
        intro p hp e
        simp only [List.mem_cons, List.not_mem_nil, or_false] at hp
        rcases hp with rfl | rfl | rfl | rfl | rfl | rfl | rfl | rfl | rfl | rfl | rfl | rfl | rfl | rfl
        · exact absurd e (by decide)
        · exact absurd e (by decide)
        · exact absurd e (by decide)
        · exact hd 7 (by kernel_rfl)
        · exact absurd e (by decide)
        · exact absurd e (by decide)
        · exact absurd e (by decide)
        · exact absurd e (by decide)
        · exact absurd e (by decide)
        · exact absurd e (by decide)
        · exact absurd e (by decide)
        · exact absurd e (by decide)
        · exact absurd e (by decide)
        · exact absurd e (by decide)
      have e7 := hJ.val 7 _ rfl (hd 7 (by kernel_rfl))
      simp only [puts, Act.put, List.setIfInBounds_toArray, List.set_cons_zero, List.set_cons_succ] at hbb
      rw [e7] at hbb
      subst hbb
      go_simp
      exact hK.out _ _ (hJ.pure hl (by decide) hE (gb_refl _ _) rfl)
    · intro l t w7 hJ hl hd bb hbb K hK
      have hgw := hJ.gb hl (by decide)
      have hE : ∀ p : Nat × Nat, p ∈ ([(2, 1), (3, 2), (5, 4), (8, 7), (9, 8), (10, 6), (10, 9), (11, 5), (11, 10), (12, 3), (12, 11), (13, 0), (14, 12), (14, 13)] : List (Nat × Nat)) → p.1 = 9 → l p.2 = true := by
        intro p hp e
        simp only [List.mem_cons, List.not_mem_nil, or_false] at hp
        rcases hp with rfl | rfl | rfl | rfl | rfl | rfl | rfl | rfl | rfl | rfl | rfl | rfl | rfl | rfl
        · exact absurd e (by decide)
        · exact absurd e (by decide)
        · exact absurd e (by decide)
        · exact absurd e (by decide)
        · exact hd 8 (by kernel_rfl)
        · exact absurd e (by decide)
        · exact absurd e (by decide)
        · exact absurd e (by decide)
        · exact absurd e (by decide)
        · exact absurd e (by decide)
        · exact absurd e (by decide)
        · exact absurd e (by decide)
        · exact absurd e (by decide)
        · exact absurd e (by decide)
      obtain ⟨c0, c1, c2, c3, k0, k1, l0, l1, -, -, -⟩ := HC.out.grown hgw
      have e8 := hJ.val 8 _ rfl (hd 8 (by kernel_rfl))
      simp only [puts, Act.put, List.setIfInBounds_toArray, List.set_cons_zero, List.set_cons_succ] at hbb
      rw [e8] at hbb
      subst hbb
      go_simp
      exact hK.out _ _ (hJ.pure hl (by decide) hE (gb_refl _ _) rfl)
    · intro l t w7 hJ hl hd bb hbb K hK
      have hgw := hJ.gb hl (by decide)
      have hE : ∀ p : Nat × Nat, p ∈ ([(2, 1), (3, 2), (5, 4), (8, 7), (9, 8), (10, 6), (10, 9), (11, 5), (11, 10), (12, 3), (12, 11), (13, 0), (14, 12), (14, 13)] : List (Nat × Nat)) → p.1 = 10 → l p.2 = true := by
        intro p hp e
        simp only [List.mem_cons, List.not_mem_nil, or_false] at hp
        rcases hp with rfl | rfl | rfl | rfl | rfl | rfl | rfl | rfl | rfl | rfl | rfl | rfl | rfl | rfl
        · exact absurd e (by decide)
        · exact absurd e (by decide)
        · exact absurd e (by decide)
        · exact absurd e (by decide)
        · exact absurd e (by decide)
        · exact hd 6 (by kernel_rfl)
        · exact hd 9 (by kernel_rfl)
        · exact absurd e (by decide)
        · exact absurd e (by decide)
        · exact absurd e (by decide)
        · exact absurd e (by decide)
        · exact absurd e (by decide)
        · exact absurd e (by decide)
        · exact absurd e (by decide)
      have e6 := hJ.val 6 _ rfl (hd 6 (by kernel_rfl))
      have e9 := hJ.val 9 _ rfl (hd 9 (by kernel_rfl))
      simp only [puts, Act.put, List.setIfInBounds_toArray, List.set_cons_zero, List.set_cons_succ] at hbb
      rw [e6] at hbb
      rw [e9] at hbb
      subst hbb
      go_simp
      refine (sub_c x0 y0 px py _ sx0 sy0 spx spy).mono ?_
      rintro e w8 ⟨rfl, hg⟩
      exact hK.out _ _ (hJ.pure hl (by decide) hE hg rfl)
    · intro l t w7 hJ hl hd bb hbb K hK
      have hgw := hJ.gb hl (by decide)
      have hE : ∀ p : Nat × Nat, p ∈ ([(2, 1), (3, 2), (5, 4), (8, 7), (9, 8), (10, 6), (10, 9), (11, 5), (11, 10), (12, 3), (12, 11), (13, 0), (14, 12), (14, 13)] : List (Nat × Nat)) → p.1 = 11 → l p.2 = true := by
        intro p hp e
        simp only [List.mem_cons, List.not_mem_nil, or_false] at hp
        rcases hp with rfl | rfl | rfl | rfl | rfl | rfl | rfl | rfl | rfl | rfl | rfl | rfl | rfl | rfl
        · exact absurd e (by decide)
        · exact absurd e (by decide)
        · exact absurd e (by decide)
        · exact absurd e (by decide)
        · exact absurd e (by decide)
        · exact absurd e (by decide)
        · exact absurd e (by decide)
        · exact hd 5 (by kernel_rfl)
        · exact hd 10 (by kernel_rfl)
        · exact absurd e (by decide)
        · exact absurd e (by decide)
        · exact absurd e (by decide)
        · exact absurd e (by decide)
        · exact absurd e (by decide)
      have e5 := hJ.val 5 _ rfl (hd 5 (by kernel_rfl))
      have e10 := hJ.val 10 _ rfl (hd 10 (by kernel_rfl))
      simp only [puts, Act.put, List.setIfInBounds_toArray, List.set_cons_zero, List.set_cons_succ] at hbb
      rw [e5] at hbb
      rw [e10] at hbb
      subst hbb
      go_simp
      refine (add_c s0 s1 s2 s3 (x0 - px) (y0 - py) _ ss0 ss1 ss2 ss3 sd0 sd1).mono ?_
      rintro e w8 ⟨rfl, hg⟩
      exact hK.out _ _ (hJ.pure hl (by decide) hE hg rfl)
    · intro l t w7 hJ hl hd bb hbb K hK
      have hgw := hJ.gb hl (by decide)
      have hE : ∀ p : Nat × Nat, p ∈ ([(2, 1), (3, 2), (5, 4), (8, 7), (9, 8), (10, 6), (10, 9), (11, 5), (11, 10), (12, 3), (12, 11), (13, 0), (14, 12), (14, 13)] : List (Nat × Nat)) → p.1 = 12 → l p.2 = true := by
        intro p hp e
        simp only [List.mem_cons, List.not_mem_nil, or_false] at hp
        rcases hp with rfl | rfl | rfl | rfl | rfl | rfl | rfl | rfl | rfl | rfl | rfl | rfl | rfl | rfl
        · exact absurd e (by decide)
        · exact absurd e (by decide)
        · exact absurd e (by decide)
        · exact absurd e (by decide)
        · exact absurd e (by decide)
        · exact absurd e (by decide)
        · exact absurd e (by decide)
        · exact absurd e (by decide)
        · exact absurd e (by decide)
        · exact hd 3 (by kernel_rfl)
        · exact hd 11 (by kernel_rfl)
        · exact absurd e (by decide)
        · exact absurd e (by decide)
        · exact absurd e (by decide)
      have e3 := hJ.val 3 _ rfl (hd 3 (by kernel_rfl))
      have e11 := hJ.val 11 _ rfl (hd 11 (by kernel_rfl))
      simp only [puts, Act.put, List.setIfInBounds_toArray, List.set_cons_zero, List.set_cons_succ] at hbb
      rw [e3] at hbb
      rw [e11] at hbb
      subst hbb
      go_simp
      refine (intersect_c a0 a1 a2 a3 (s0 + (x0 - px)) (s1 + (y0 - py)) (s2 + (x0 - px)) (s3 + (y0 - py)) _).mono ?_
      rintro e w8 ⟨rfl, hg⟩
      rw [isec_ia, Hb.out.1, Hb.out.2.1, Hb.out.2.2.1, Hb.out.2.2.2]
      exact hK.out _ _ (hJ.pure hl (by decide) hE hg rfl)
    · intro l t w7 hJ hl hd bb hbb K hK
      have hgw := hJ.gb hl (by decide)
      have hE : ∀ p : Nat × Nat, p ∈ ([(2, 1), (3, 2), (5, 4), (8, 7), (9, 8), (10, 6), (10, 9), (11, 5), (11, 10), (12, 3), (12, 11), (13, 0), (14, 12), (14, 13)] : List (Nat × Nat)) → p.1 = 13 → l p.2 = true := by
        intro p hp e
        simp only [List.mem_cons, List.not_mem_nil, or_false] at hp
        rcases hp with rfl | rfl | rfl | rfl | rfl | rfl | rfl | rfl | rfl | rfl | rfl | rfl | rfl | rfl
        · exact absurd e (by decide)
        · exact absurd e (by decide)
        · exact absurd e (by decide)
        · exact absurd e (by decide)
        · exact absurd e (by decide)
        · exact absurd e (by decide)
        · exact absurd e (by decide)
        · exact absurd e (by decide)
        · exact absurd e (by decide)
        · exact absurd e (by decide)
        · exact absurd e (by decide)
        · exact hd 0 (by kernel_rfl)
        · exact absurd e (by decide)
        · exact absurd e (by decide)
      have e0 := hJ.val 0 _ rfl (hd 0 (by kernel_rfl))
      simp only [puts, Act.put, List.setIfInBounds_toArray, List.set_cons_zero, List.set_cons_succ] at hbb
      rw [e0] at hbb
      subst hbb
      go_simp
      exact hK.out _ _ (hJ.pure hl (by decide) hE (gb_refl _ _) rfl)
    · intro l t w7 hJ hl hd bb hbb K hK
      have hgw := hJ.gb hl (by decide)
      have hE : ∀ p : Nat × Nat, p ∈ ([(2, 1), (3, 2), (5, 4), (8, 7), (9, 8), (10, 6), (10, 9), (11, 5), (11, 10), (12, 3), (12, 11), (13, 0), (14, 12), (14, 13)] : List (Nat × Nat)) → p.1 = 14 → l p.2 = true := by
        intro p hp e
        simp only [List.mem_cons, List.not_mem_nil, or_false] at hp
        rcases hp with rfl | rfl | rfl | rfl | rfl | rfl | rfl | rfl | rfl | rfl | rfl | rfl | rfl | rfl
        · exact absurd e (by decide)
        · exact absurd e (by decide)
        · exact absurd e (by decide)
        · exact absurd e (by decide)
        · exact absurd e (by decide)
        · exact absurd e (by decide)
        · exact absurd e (by decide)
        · exact absurd e (by decide)
        · exact absurd e (by decide)
        · exact absurd e (by decide)
        · exact absurd e (by decide)
        · exact absurd e (by decide)
        · exact hd 12 (by kernel_rfl)
        · exact hd 13 (by kernel_rfl)
      obtain ⟨c0, c1, c2, c3, k0, k1, l0, l1, fr, fp, fq⟩ := HC.out.grown hgw
      have e12 := hJ.val 12 _ rfl (hd 12 (by kernel_rfl))
      have e13 := hJ.val 13 _ rfl (hd 13 (by kernel_rfl))
      simp only [puts, Act.put, List.setIfInBounds_toArray, List.set_cons_zero, List.set_cons_succ] at hbb
      rw [e12] at hbb
      rw [e13] at hbb
      subst hbb
      go_simp
      exact hK.out undef _ (hJ.last hE rfl (cp_step HG.out hgw hbr HC.out n1 n2 n4 HZ.out HO.out.1 HO.out.2) undef)
  intro l t wc hJ hl
  have hcut := hJ.done (hl 14 (by decide))
  clear hJ hl
  simp only [puts, Act.put, List.setIfInBounds_toArray, List.set_cons_zero, List.set_cons_succ]
  obtain ⟨hg1, hz1, hc1, o0, o1⟩ := hcut
  clear HO HZ HG HC
  have HO := hid (And.intro o0 o1)
  have HZ := hid hz1
  have HG := hid hg1
  have HC := hid hc1
  clear o0 o1 hz1 hg1 hc1
  obtain ⟨wz, hwz⟩ : ∃ wz : World, wz = wc := ⟨_, rfl⟩
  rw [← hwz]
  rw [← hwz] at HO HZ HG HC
  clear hwz wc
  go_upto_region 4 with fail
  refine wp_region_inv (JL wz [some (.pointer (some ⟨br, 0, none⟩)), some (.pointer (some ⟨br, 0, none⟩)), some (.pointer (some ⟨br, 0, none⟩)), some (vR b0 b1 b2 b3), some (.iface tm vm), some (vR m0 m1 m2 m3), some (vP x0 y0), some (.pointer (some ⟨bq, 0, none⟩)), some (.pointer (some ⟨bq, 0, none⟩)), some (vP qx qy), some (vP (x0 - qx) (y0 - qy)), some (vR (m0 + (x0 - qx)) (m1 + (y0 - qy)) (m2 + (x0 - qx)) (m3 + (y0 - qy))), some (vR c0 c1 c2 c3), some (.pointer (some ⟨br, 0, none⟩)), none] [(2, 1), (3, 2), (5, 4), (8, 7), (9, 8), (10, 6), (10, 9), (11, 5), (11, 10), (12, 3), (12, 11), (13, 0), (14, 12), (14, 13)] 14 (fun wx => w0.grownBy wx none ∧ w.heap.size < wx.heap.size ∧ Cp wx br bp bq c0 c1 c2 c3 px py qx qy ∧ wx.cell? ⟨w.heap.size, 0, none⟩ = some (.int .i64 x0) ∧ wx.cell? ⟨w.heap.size, 1, none⟩ = some (.int .i64 y0))) (fun _ => undef) (by kernel_rfl) (by kernel_rfl) [(0, 43), (1, 44), (2, 45), (3, 46), (4, 47), (5, 48), (6, 49), (7, 50), (8, 51), (9, 52), (10, 53), (11, 54), (12, 55), (13, 56)] (by kernel_rfl) (JL.start (by (repeat (first | exact gb_refl _ _ | assumption | refine gb_drew ?_ | refine gb_drewN ?_ _ | refine gb_alloc ?_ _ | refine gb_setCell ?_ (.inr (by simp <;> omega)) _))) (by kernel_rfl)) ?_ ?_
  · refine Steps'.cons [] (by kernel_rfl) ?_ (Steps'.cons [] (by kernel_rfl) ?_ (Steps'.cons [(1, 44)] (by kernel_rfl) ?_ (Steps'.cons [(2, 45)] (by kernel_rfl) ?_ (Steps'.cons [] (by kernel_rfl) ?_ (Steps'.cons [(4, 47)] (by kernel_rfl) ?_ (Steps'.cons [] (by kernel_rfl) ?_ (Steps'.cons [] (by kernel_rfl) ?_ (Steps'.cons [(7, 50)] (by kernel_rfl) ?_ (Steps'.cons [(8, 51)] (by kernel_rfl) ?_ (Steps'.cons [(6, 49), (9, 52)] (by kernel_rfl) ?_ (Steps'.cons [(5, 48), (10, 53)] (by kernel_rfl) ?_ (Steps'.cons [(3, 46), (11, 54)] (by kernel_rfl) ?_ (Steps'.cons [(0, 43)] (by kernel_rfl) ?_ (Steps'.cons [(12, 55), (13, 56)] (by kernel_rfl) ?_ (Steps'.nil)))))))))))))))
    · intro l t w7 hJ hl hd bb hbb K hK
      have hgw := hJ.gb hl (by decide)
      have hE : ∀ p : Nat × Nat, p ∈ ([(2, 1), (3, 2), (5, 4), (8, 7), (9, 8), (10, 6), (10, 9), (11, 5), (11, 10), (12, 3), (12, 11), (13, 0), (14, 12), (14, 13)] : List (Nat × Nat)) → p.1 = 0 → l p.2 = true := by
        intro p hp e
        simp only [List.mem_cons, List.not_mem_nil, or_false] at hp
        rcases hp with rfl | rfl | rfl | rfl | rfl | rfl | rfl | rfl | rfl | rfl | rfl | rfl | rfl | rfl <;> exact absurd e (by decide)
      simp only [puts, Act.put, List.setIfInBounds_toArray, List.set_cons_zero, List.set_cons_succ] at hbb
      subst hbb
      go_simp
      exact hK.out _ _ (hJ.pure hl (by decide) hE (gb_refl _ _) rfl)
    · intro l t w7 hJ hl hd bb hbb K hK
      have hgw := hJ.gb hl (by decide)
      have hE : ∀ p : Nat × Nat, p ∈ ([(2, 1), (3, 2), (5, 4), (8, 7), (9, 8), (10, 6), (10, 9), (11, 5), (11, 10), (12, 3), (12, 11), (13, 0), (14, 12), (14, 13)] : List (Nat × Nat)) → p.1 = 1 → l p.2 = true := by
        intro p hp e
        simp only [List.mem_cons, List.not_mem_nil, or_false] at hp
        rcases hp with rfl | rfl | rfl | rfl | rfl | rfl | rfl | rfl | rfl | rfl | rfl | rfl | rfl | rfl <;> exact absurd e (by decide)
      simp only [puts, Act.put, List.setIfInBounds_toArray, List.set_cons_zero, List.set_cons_succ] at hbb
      subst hbb
      go_simp
      exact hK.out _ _ (hJ.pure hl (by decide) hE (gb_refl _ _) rfl)
    · intro l t w7 hJ hl hd bb hbb K hK
      have hgw := hJ.gb hl (by decide)
      have hE : ∀ p : Nat × Nat, p ∈ ([(2, 1), (3, 2), (5, 4), (8, 7), (9, 8), (10, 6), (10, 9), (11, 5), (11, 10), (12, 3), (12, 11), (13, 0), (14, 12), (14, 13)] : List (Nat × Nat)) → p.1 = 2 → l p.2 = true := by
        intro p hp e
        simp only [List.mem_cons, List.not_mem_nil, or_false] at hp
        rcases hp with rfl | rfl | rfl | rfl | rfl | rfl | rfl | rfl | rfl | rfl | rfl | rfl | rfl | rfl
        · exact hd 1 (by kernel_rfl)
        · exact absurd e (by decide)
        · exact absurd e (by decide)
        · exact absurd e (by decide)
        · exact absurd e (by decide)
        · exact absurd e (by decide)
        · exact absurd e (by decide)
        · exact absurd e (by decide)
        · exact absurd e (by decide)
        · exact absurd e (by decide)
        · exact absurd e (by decide)
        · exact absurd e (by decide)
        · exact absurd e (by decide)
        · exact absurd e (by decide)
      have e1 := hJ.val 1 _ rfl (hd 1 (by kernel_rfl))
      simp only [puts, Act.put, List.setIfInBounds_toArray, List.set_cons_zero, List.set_cons_succ] at hbb
      rw [e1] at hbb
      subst hbb
      go_simp
      exact hK.out _ _ (hJ.pure hl (by decide) hE (gb_refl _ _) rfl)
    · intro l t w7 hJ hl hd bb hbb K hK
      have hgw := hJ.gb hl (by decide)
      have hE : ∀ p : Nat × Nat, p ∈ ([(2, 1), (3, 2), (5, 4), (8, 7), (9, 8), (10, 6), (10, 9), (11, 5), (11, 10), (12, 3), (12, 11), (13, 0), (14, 12), (14, 13)] : List (Nat × Nat)) → p.1 = 3 → l p.2 = true := by
        intro p hp e
        simp only [List.mem_cons, List.not_mem_nil, or_false] at hp
        rcases hp with rfl | rfl | rfl | rfl | rfl | rfl | rfl | rfl | rfl | rfl | rfl | rfl | rfl | rfl
        · exact absurd e (by decide)
        · exact hd 2 (by kernel_rfl)
        · exact absurd e (by decide)
        · exact absurd e (by decide)
        · exact absurd e (by decide)
        · exact absurd e (by decide)
        · exact absurd e (by decide)
        · exact absurd e (by decide)
        · exact absurd e (by decide)
        · exact absurd e (by decide)
        · exact absurd e (by decide)
        · exact absurd e (by decide)
        · exact absurd e (by decide)
        · exact absurd e (by decide)
      obtain ⟨c0, c1, c2, c3, k0, k1, l0, l1, -, -, -⟩ := HC.out.grown hgw
      have e2 := hJ.val 2 _ rfl (hd 2 (by kernel_rfl))
      simp only [puts, Act.put, List.setIfInBounds_toArray, List.set_cons_zero, List.set_cons_succ] at hbb
      rw [e2] at hbb
      subst hbb
      go_simp
      exact hK.out _ _ (hJ.pure hl (by decide) hE (gb_refl _ _) rfl)
    · intro l t w7 hJ hl hd bb hbb K hK
      have hgw := hJ.gb hl (by decide)
      have hE : ∀ p : Nat × Nat, p ∈ ([(2, 1), (3, 2), (5, 4), (8, 7), (9, 8), (10, 6), (10, 9), (11, 5), (11, 10), (12, 3), (12, 11), (13, 0), (14, 12), (14, 13)] : List (Nat × Nat)) → p.1 = 4 → l p.2 = true := by
        intro p hp e
        simp only [List.mem_cons, List.not_mem_nil, or_false] at hp
        rcases hp with rfl | rfl | rfl | rfl | rfl | rfl | rfl | rfl | rfl | rfl | rfl | rfl | rfl | rfl <;> exact absurd e (by decide)
      simp only [puts, Act.put, List.setIfInBounds_toArray, List.set_cons_zero, List.set_cons_succ] at hbb
      subst hbb
      go_simp
      exact hK.out _ _ (hJ.pure hl (by decide) hE (gb_refl _ _) rfl)
    · intro l t w7 hJ hl hd bb hbb K hK
      have hgw := hJ.gb hl (by decide)
      have hE : ∀ p : Nat × Nat, p ∈ ([(2, 1), (3, 2), (5, 4), (8, 7), (9, 8), (10, 6), (10, 9), (11, 5), (11, 10), (12, 3), (12, 11), (13, 0), (14, 12), (14, 13)] : List (Nat × Nat)) → p.1 = 5 → l p.2 = true := by
        intro p hp e
        simp only [List.mem_cons, List.not_mem_nil, or_false] at hp
        rcases hp with rfl | rfl | rfl | rfl | rfl | rfl | rfl | rfl | rfl | rfl | rfl | rfl | rfl | rfl
        · exact absurd e (by decide)
        · exact absurd e (by decide)
        · exact hd 4 (by kernel_rfl)
        · exact absurd e (by decide)
        · exact absurd e (by decide)
        · exact absurd e (by decide)
        · exact absurd e (by decide)
        · exact absurd e (by decide)
        · exact absurd e (by decide)
        · exact absurd e (by decide)
        · exact absurd e (by decide)
        · exact absurd e (by decide)
        · exact absurd e (by decide)
        · exact absurd e (by decide)
      have e4 := hJ.val 4 _ rfl (hd 4 (by kernel_rfl))
      simp only [puts, Act.put, List.setIfInBounds_toArray, List.set_cons_zero, List.set_cons_succ] at hbb
      rw [e4] at hbb
      subst hbb
      go_simp
      refine (hh2 _ (gb_trans HG.out hgw)).mono ?_
      rintro e w8 ⟨rfl, hg⟩
      exact hK.out _ _ (hJ.pure hl (by decide) hE hg rfl)
    · intro l t w7 hJ hl hd bb hbb K hK
      have hgw := hJ.gb hl (by decide)
      have hE : ∀ p : Nat × Nat, p ∈ ([(2, 1), (3, 2), (5, 4), (8, 7), (9, 8), (10, 6), (10, 9), (11, 5), (11, 10), (12, 3), (12, 11), (13, 0), (14, 12), (14, 13)] : List (Nat × Nat)) → p.1 = 6 → l p.2 = true := by
        intro p hp e
        simp only [List.mem_cons, List.not_mem_nil, or_false] at hp
        rcases hp with rfl | rfl | rfl | rfl | rfl | rfl | rfl | rfl | rfl | rfl | rfl | rfl | rfl | rfl <;> exact absurd e (by decide)
      have o0 := (gb_cell0 hgw HZ.out).trans HO.out.1
      have o1 := (gb_cell0 hgw (p := ⟨w.heap.size, 1, none⟩) HZ.out).trans HO.out.2
      simp only [puts, Act.put, List.setIfInBounds_toArray, List.set_cons_zero, List.set_cons_succ] at hbb
      subst hbb
      go_simp
      exact hK.out _ _ (hJ.pure hl (by decide) hE (gb_refl _ _) rfl)
    · intro l t w7 hJ hl hd bb hbb K hK
      have hgw := hJ.gb hl (by decide)
      have hE : ∀ p : Nat × Nat, p ∈ ([(2, 1), (3, 2), (5, 4), (8, 7), (9, 8), (10, 6), (10, 9), (11, 5), (11, 10), (12, 3), (12, 11), (13, 0), (14, 12), (14, 13)] : List (Nat × Nat)) → p.1 = 7 → l p.2 = true := by
        intro p hp e
        simp only [List.mem_cons, List.not_mem_nil, or_false] at hp
        rcases hp with rfl | rfl | rfl | rfl | rfl | rfl | rfl | rfl | rfl | rfl | rfl | rfl | rfl | rfl <;> exact absurd e (by decide)
      simp only [puts, Act.put, List.setIfInBounds_toArray, List.set_cons_zero, List.set_cons_succ] at hbb
      subst hbb
      go_simp
      exact hK.out _ _ (hJ.pure hl (by decide) hE (gb_refl _ _) rfl)
    · intro l t w7 hJ hl hd bb hbb K hK
      have hgw := hJ.gb hl (by decide)
      have hE : ∀ p : Nat × Nat, p ∈ ([(2, 1), (3, 2), (5, 4), (8, 7), (9, 8), (10, 6), (10, 9), (11, 5), (11, 10), (12, 3), (12, 11), (13, 0), (14, 12), (14, 13)] : List (Nat × Nat)) → p.1 = 8 → l p.2 = true := by
        intro p hp e
        simp only [List.mem_cons, List.not_mem_nil, or_false] at hp
        rcases hp with rfl | rfl | rfl | rfl | rfl | rfl | rfl | rfl | rfl | rfl | rfl | rfl | rfl | rfl
        · exact absurd e (by decide)
        · exact absurd e (by decide)
        · exact absurd e (by decide)
        · exact hd 7 (by kernel_rfl)
        · exact absurd e (by decide)
        · exact absurd e (by decide)
        · exact absurd e (by decide)
        · exact absurd e (by decide)
        · exact absurd e (by decide)
        · exact absurd e (by decide)
        · exact absurd e (by decide)
        · exact absurd e (by decide)
        · exact absurd e (by decide)
        · exact absurd e (by decide)
      have e7 := hJ.val 7 _ rfl (hd 7 (by kernel_rfl))
      simp only [puts, Act.put, List.setIfInBounds_toArray, List.set_cons_zero, List.set_cons_succ] at hbb
      rw [e7] at hbb
      subst hbb
      go_simp
      exact hK.out _ _ (hJ.pure hl (by decide) hE (gb_refl _ _) rfl)
    · intro l t w7 hJ hl hd bb hbb K hK
      have hgw := hJ.gb hl (by decide)
      have hE : ∀ p : Nat × Nat, p ∈ ([(2, 1), (3, 2), (5, 4), (8, 7), (9, 8), (10, 6), (10, 9), (11, 5), (11, 10), (12, 3), (12, 11), (13, 0), (14, 12), (14, 13)] : List (Nat × Nat)) → p.1 = 9 → l p.2 = true := by
        intro p hp e
        simp only [List.mem_cons, List.not_mem_nil, or_false] at hp
        rcases hp with rfl | rfl | rfl | rfl | rfl | rfl | rfl | rfl | rfl | rfl | rfl | rfl | rfl | rfl
        · exact absurd e (by decide)
        · exact absurd e (by decide)
        · exact absurd e (by decide)
        · exact absurd e (by decide)
        · exact hd 8 (by kernel_rfl)
        · exact absurd e (by decide)
        · exact absurd e (by decide)
        · exact absurd e (by decide)
        · exact absurd e (by decide)
        · exact absurd e (by decide)
        · exact absurd e (by decide)
        · exact absurd e (by decide)
        · exact absurd e (by decide)
        · exact absurd e (by decide)
      obtain ⟨c0, c1, c2, c3, k0, k1, l0, l1, -, -, -⟩ := HC.out.grown hgw
      have e8 := hJ.val 8 _ rfl (hd 8 (by kernel_rfl))
      simp only [puts, Act.put, List.setIfInBounds_toArray, List.set_cons_zero, List.set_cons_succ] at hbb
      rw [e8] at hbb
      subst hbb
      go_simp
      exact hK.out _ _ (hJ.pure hl (by decide) hE (gb_refl _ _) rfl)
    · intro l t w7 hJ hl hd bb hbb K hK
      have hgw := hJ.gb hl (by decide)
      have hE : ∀ p : Nat × Nat, p ∈ ([(2, 1), (3, 2), (5, 4), (8, 7), (9, 8), (10, 6), (10, 9), (11, 5), (11, 10), (12, 3), (12, 11), (13, 0), (14, 12), (14, 13)] : List (Nat × Nat)) → p.1 = 10 → l p.2 = true := by
        intro p hp e
        simp only [List.mem_cons, List.not_mem_nil, or_false] at hp
        rcases hp with rfl | rfl | rfl | rfl | rfl | rfl | rfl | rfl | rfl | rfl | rfl | rfl | rfl | rfl
        · exact absurd e (by decide)
        · exact absurd e (by decide)
        · exact absurd e (by decide)
        · exact absurd e (by decide)
        · exact absurd e (by decide)
        · exact hd 6 (by kernel_rfl)
        · exact hd 9 (by kernel_rfl)
        · exact absurd e (by decide)
        · exact absurd e (by decide)
        · exact absurd e (by decide)
        · exact absurd e (by decide)
        · exact absurd e (by decide)
        · exact absurd e (by decide)
        · exact absurd e (by decide)
      have e6 := hJ.val 6 _ rfl (hd 6 (by kernel_rfl))
      have e9 := hJ.val 9 _ rfl (hd 9 (by kernel_rfl))
      simp only [puts, Act.put, List.setIfInBounds_toArray, List.set_cons_zero, List.set_cons_succ] at hbb
      rw [e6] at hbb
      rw [e9] at hbb
      subst hbb
      go_simp
      refine (sub_c x0 y0 qx qy _ sx0 sy0 sqx sqy).mono ?_
      rintro e w8 ⟨rfl, hg⟩
      exact hK.out _ _ (hJ.pure hl (by decide) hE hg rfl)
    · intro l t w7 hJ hl hd bb hbb K hK
      have hgw := hJ.gb hl (by decide)
      have hE : ∀ p : Nat × Nat, p ∈ ([(2, 1), (3, 2), (5, 4), (8, 7), (9, 8), (10, 6), (10, 9), (11, 5), (11, 10), (12, 3), (12, 11), (13, 0), (14, 12), (14, 13)] : List (Nat × Nat)) → p.1 = 11 → l p.2 = true := by
        intro p hp e
        simp only [List.mem_cons, List.not_mem_nil, or_false] at hp
        rcases hp with rfl | rfl | rfl | rfl | rfl | rfl | rfl | rfl | rfl | rfl | rfl | rfl | rfl | rfl
        · exact absurd e (by decide)
        · exact absurd e (by decide)
        · exact absurd e (by decide)
        · exact absurd e (by decide)
        · exact absurd e (by decide)
        · exact absurd e (by decide)
        · exact absurd e (by decide)
        · exact hd 5 (by kernel_rfl)
        · exact hd 10 (by kernel_rfl)
        · exact absurd e (by decide)
        · exact absurd e (by decide)
        · exact absurd e (by decide)
        · exact absurd e (by decide)
        · exact absurd e (by decide)
      have e5 := hJ.val 5 _ rfl (hd 5 (by kernel_rfl))
      have e10 := hJ.val 10 _ rfl (hd 10 (by kernel_rfl))
      simp only [puts, Act.put, List.setIfInBounds_toArray, List.set_cons_zero, List.set_cons_succ] at hbb
      rw [e5] at hbb
      rw [e10] at hbb
      subst hbb
      go_simp
      refine (add_c m0 m1 m2 m3 (x0 - qx) (y0 - qy) _ sm0 sm1 sm2 sm3 sq0 sq1).mono ?_
      rintro e w8 ⟨rfl, hg⟩
      exact hK.out _ _ (hJ.pure hl (by decide) hE hg rfl)
    · intro l t w7 hJ hl hd bb hbb K hK
      have hgw := hJ.gb hl (by decide)
      have hE : ∀ p : Nat × Nat, p ∈ ([(2, 1), (3, 2), (5, 4), (8, 7), (9, 8), (10, 6), (10, 9), (11, 5), (11, 10), (12, 3), (12, 11), (13, 0), (14, 12), (14, 13)] : List (Nat × Nat)) → p.1 = 12 → l p.2 = true := by
        intro p hp e
        simp only [List.mem_cons, List.not_mem_nil, or_false] at hp
        rcases hp with rfl | rfl | rfl | rfl | rfl | rfl | rfl | rfl | rfl | rfl | rfl | rfl | rfl | rfl
        · exact absurd e (by decide)
        · exact absurd e (by decide)
        · exact absurd e (by decide)
        · exact absurd e (by decide)
        · exact absurd e (by decide)
        · exact absurd e (by decide)
        · exact absurd e (by decide)
        · exact absurd e (by decide)
        · exact absurd e (by decide)
        · exact hd 3 (by kernel_rfl)
        · exact hd 11 (by kernel_rfl)
        · exact absurd e (by decide)
        · exact absurd e (by decide)
        · exact absurd e (by decide)
      have e3 := hJ.val 3 _ rfl (hd 3 (by kernel_rfl))
      have e11 := hJ.val 11 _ rfl (hd 11 (by kernel_rfl))
      simp only [puts, Act.put, List.setIfInBounds_toArray, List.set_cons_zero, List.set_cons_succ] at hbb
      rw [e3] at hbb
      rw [e11] at hbb
      subst hbb
      go_simp
      refine (intersect_c b0 b1 b2 b3 (m0 + (x0 - qx)) (m1 + (y0 - qy)) (m2 + (x0 - qx)) (m3 + (y0 - qy)) _).mono ?_
      rintro e w8 ⟨rfl, hg⟩
      rw [isec_ia, Hc.out.1, Hc.out.2.1, Hc.out.2.2.1, Hc.out.2.2.2]
      exact hK.out _ _ (hJ.pure hl (by decide) hE hg rfl)
    · intro l t w7 hJ hl hd bb hbb K hK
      have hgw := hJ.gb hl (by decide)
      have hE : ∀ p : Nat × Nat, p ∈ ([(2, 1), (3, 2), (5, 4), (8, 7), (9, 8), (10, 6), (10, 9), (11, 5), (11, 10), (12, 3), (12, 11), (13, 0), (14, 12), (14, 13)] : List (Nat × Nat)) → p.1 = 13 → l p.2 = true := by
        intro p hp e
        simp only [List.mem_cons, List.not_mem_nil, or_false] at hp
        rcases hp with rfl | rfl | rfl | rfl | rfl | rfl | rfl | rfl | rfl | rfl | rfl | rfl | rfl | rfl
        · exact absurd e (by decide)
        · exact absurd e (by decide)
        · exact absurd e (by decide)
        · exact absurd e (by decide)
        · exact absurd e (by decide)
        · exact absurd e (by decide)
        · exact absurd e (by decide)
        · exact absurd e (by decide)
        · exact absurd e (by decide)
        · exact absurd e (by decide)
        · exact absurd e (by decide)
        · exact hd 0 (by kernel_rfl)
        · exact absurd e (by decide)
        · exact absurd e (by decide)
      have e0 := hJ.val 0 _ rfl (hd 0 (by kernel_rfl))
      simp only [puts, Act.put, List.setIfInBounds_toArray, List.set_cons_zero, List.set_cons_succ] at hbb
      rw [e0] at hbb
      subst hbb
      go_simp
      exact hK.out _ _ (hJ.pure hl (by decide) hE (gb_refl _ _) rfl)
    · intro l t w7 hJ hl hd bb hbb K hK
      have hgw := hJ.gb hl (by decide)
      have hE : ∀ p : Nat × Nat, p ∈ ([(2, 1), (3, 2), (5, 4), (8, 7), (9, 8), (10, 6), (10, 9), (11, 5), (11, 10), (12, 3), (12, 11), (13, 0), (14, 12), (14, 13)] : List (Nat × Nat)) → p.1 = 14 → l p.2 = true := by
        intro p hp e
        simp only [List.mem_cons, List.not_mem_nil, or_false] at hp
        rcases hp with rfl | rfl | rfl | rfl | rfl | rfl | rfl | rfl | rfl | rfl | rfl | rfl | rfl | rfl
        · exact absurd e (by decide)
        · exact absurd e (by decide)
        · exact absurd e (by decide)
        · exact absurd e (by decide)
        · exact absurd e (by decide)
        · exact absurd e (by decide)
        · exact absurd e (by decide)
        · exact absurd e (by decide)
        · exact absurd e (by decide)
        · exact absurd e (by decide)
        · exact absurd e (by decide)
        · exact absurd e (by decide)
        · exact hd 12 (by kernel_rfl)
        · exact hd 13 (by kernel_rfl)
      obtain ⟨c0, c1, c2, c3, k0, k1, l0, l1, fr, fp, fq⟩ := HC.out.grown hgw
      have e12 := hJ.val 12 _ rfl (hd 12 (by kernel_rfl))
      have e13 := hJ.val 13 _ rfl (hd 13 (by kernel_rfl))
      simp only [puts, Act.put, List.setIfInBounds_toArray, List.set_cons_zero, List.set_cons_succ] at hbb
      rw [e12] at hbb
      rw [e13] at hbb
      subst hbb
      go_simp
      exact hK.out undef _ (hJ.last hE rfl (cp_step HG.out hgw hbr HC.out n1 n2 n4 HZ.out HO.out.1 HO.out.2) undef)
  intro l t wc hJ hl
  have hcut := hJ.done (hl 14 (by decide))
  clear hJ hl
  simp only [puts, Act.put, List.setIfInBounds_toArray, List.set_cons_zero, List.set_cons_succ]
  obtain ⟨hg2', hz2, ⟨c0'', c1'', c2'', c3'', p0', p1', q0', q1', fr', fp', fq'⟩, o0', o1'⟩ := hcut
  clear HO HZ HG HC
  unfold sm at *
  have r1 : IntKind.i64.wrap (c0 - x0) = c0 - x0 := IntWalk.i64_in _ (by omega)
  have r2 : IntKind.i64.wrap (c1 - y0) = c1 - y0 := IntWalk.i64_in _ (by omega)
  go_wp2
  go_quiet (fail)
  go_wp2
  go_quiet (fail)
  clear r1 r2
  have lr : br < wc.heap.size := World.block_lt_of_cell? wc _ c0''
  by_cases g1 : c0 - x0 = 0
  · by_cases g2 : c1 - y0 = 0
    · go_wp2
      refine bodyPost_ret (v := .tuple #[]) (by simp [results, Tryz.results48]) rfl ⟨rfl, gb_drewN hg2' _, ?_⟩
      unfold Cp; rw [g1, g2]; simp only [Int.add_zero]
      exact ⟨c0'', c1'', c2'', c3'', p0', p1', q0', q1', fr', fp', fq'⟩
    · go_wp2
      refine bodyPost_end (v := .tuple #[]) (by simp [results, Tryz.results48]) rfl ⟨rfl, ?_, ?_⟩
      · (repeat (first | exact hg2' | refine gb_drewN ?_ _ | (refine gb_setCell ?_ (.inr (by assumption)) _)))
      exact ⟨by go_simp, by go_simp, by go_simp, by go_simp, by go_simp, by go_simp, by go_simp, by go_simp, by go_simp, by go_simp, by go_simp⟩
  · go_wp2
    refine bodyPost_end (v := .tuple #[]) (by simp [results, Tryz.results48]) rfl ⟨rfl, ?_, ?_⟩
    · (repeat (first | exact hg2' | refine gb_drewN ?_ _ | (refine gb_setCell ?_ (.inr (by assumption)) _)))
    exact ⟨by go_simp, by go_simp, by go_simp, by go_simp, by go_simp, by go_simp, by go_simp, by go_simp, by go_simp, by go_simp, by go_simp⟩
end Go.Proofs.YtgjpohmjkhgpfaaGreat

namespace Go.Proofs.YtgjpohmjkhgpfaaGreat
open Go.RowKit

theorem clip1_k {w0 w : World} {br bp bq : Nat} {td ts tm : TypeId} {vd vs vm : Value} {x0 y0 x1 y1 px py qx qy d0 d1 d2 d3 s0 s1 s2 s3 m0 m1 m2 m3 b0 b1 b2 b3 p0 p1 q0 q1 : Int}
    (hC : Cl1 x0 y0 x1 y1 px py qx qy d0 d1 d2 d3 s0 s1 s2 s3 m0 m1 m2 m3 b0 b1 b2 b3 p0 p1 q0 q1)
    (hg0 : w0.grownBy w none) (hbr : w0.heap.size ≤ br) (hbp : w0.heap.size ≤ bp) (hbq : w0.heap.size ≤ bq) (n1 : br ≠ bp) (n2 : br ≠ bq) (n3 : bp ≠ bq)
    (hd : Bd w0 td vd d0 d1 d2 d3) (hs : Bd w0 ts vs s0 s1 s2 s3) (hm : Bd w0 tm vm m0 m1 m2 m3) (hc : Cp w br bp bq x0 y0 x1 y1 px py qx qy) :
    Calls Tryz.prog 48 #[.iface td vd, .pointer (some ⟨br, 0, none⟩), .iface ts vs, .pointer (some ⟨bp, 0, none⟩), .iface tm vm, .pointer (some ⟨bq, 0, none⟩)] w fun e w' =>
      e = .returned (.tuple #[]) ∧ w0.grownBy w' none ∧ Cp w' br bp bq b0 b1 b2 b3 p0 p1 q0 q1 := by
  obtain ⟨⟨k1, k2, k3, k4, k5, k6, k7, k8, k9, k10, k11, k12, k13, k14⟩, ⟨e0, e1, e2, e3⟩, ⟨rfl, rfl, rfl, rfl⟩, k17, k18, k19, k20, k21, k22⟩ := hC
  exact clip1_c hg0 hbr hbp hbq n1 n2 n3 hd hs hc k1 k2 k3 k4 k5 k6 k7 k8 k9 k10 k11 k12 hm k17 k18 k19 k20 k21 k22 rfl rfl rfl rfl rfl rfl rfl rfl e0 e1 e2 e3 k13 k14

set_option maxRecDepth 100000 in
set_option maxHeartbeats 8000000 in
theorem dm_emp1 {td ts tm : TypeId} {vd vs vm : Value} {x0 y0 x1 y1 px py qx qy d0 d1 d2 d3 s0 s1 s2 s3 m0 m1 m2 m3 b0 b1 b2 b3 p0 p1 q0 q1 op : Int} (w : World)
    (hD : Bd w td vd d0 d1 d2 d3) (hS : Bd w ts vs s0 s1 s2 s3) (hM : Bd w tm vm m0 m1 m2 m3)
    (hC : Cl1 x0 y0 x1 y1 px py qx qy d0 d1 d2 d3 s0 s1 s2 s3 m0 m1 m2 m3 b0 b1 b2 b3 p0 p1 q0 q1) (hE : emp b0 b1 b2 b3 = true) :
    Calls Tryz.prog 42 #[.iface td vd, vR x0 y0 x1 y1, .iface ts vs, vP px py, .iface tm vm, vP qx qy, .int .i64 op] w fun e w' => e = .returned (.tuple #[]) ∧ w.grownBy w' none := by
  have HC := hid hC
  have Hem := hid hE
  have HD := hid hD
  have HS := hid hS
  have HM := hid hM
  clear hC hE hD hS hM
  go_enter Tryz.func42, Tryz.ntmps42
  go_wp2_with fail
  refine (clip1_k HC.out (w0 := w) (gb_alloc (gb_alloc (gb_alloc (gb_refl _ _) _) _) _) (Nat.le_refl _) (by omega) (by omega) (by omega) (by omega) (by omega) HD.out HS.out HM.out (cp_start _ _ _ _ _ _ _ _ _)).mono ?_
  rintro e w1 ⟨rfl, hg, ⟨c0, c1, c2, c3, k0, k1, l0, l1, fr, fp, fq⟩⟩
  clear fr fp fq k0 k1 l0 l1
  have Hg := hid hg
  clear hg
  go_wp2_with fail
  refine (empty_c b0 b1 b2 b3 _).mono ?_
  rintro e w2 ⟨rfl, rfl⟩
  rw [Hem.out]
  go_wp2_with fail
  exact bodyPost_ret (v := .tuple #[]) (by simp [results, Tryz.results42]) rfl ⟨rfl, gb_alloc Hg.out _⟩
end Go.Proofs.YtgjpohmjkhgpfaaGreat

namespace Go.Proofs.YtgjpohmjkhgpfaaGreat
open Go.RowKit

/-- where an image's pixels lie, apart from the destination's -/
theorem apart_of {w : World} {B' n' c' b' ks sh sw g : Nat} {sx0 sy0 sx1 sy1 : Int} {s : Nat → Int} {A' : Option Addr} {ts : TypeId} (hap : (⟨g, 0, none⟩ : Addr).block ≠ b' ∧ ∀ a', A' = some a' → a'.block ≠ (⟨g, 0, none⟩ : Addr).block)
    (Hs : IM w B' sx0 sy0 sx1 sy1 n' s A' c' b' ks ts) (GS : Geo ks sx0 sy0 sx1 sy1 n' sh sw) (h0 : 0 < sh) (h1 : 0 < sw) : b' ≠ g ∧ pbk ks A' b' ≠ g := by
  have n1 : b' ≠ g := fun e => hap.1 e.symm
  refine ⟨n1, ?_⟩
  by_cases h6 : ks = 6
  · unfold pbk; rw [if_pos h6]; exact n1
  · unfold pbk; rw [if_neg h6]
    rcases GS with ⟨h, _⟩ | ⟨-, e1, e2, hn', l1, l2, v1, v2, v3, v4⟩
    · exact absurd h h6
    · obtain ⟨g', e, _⟩ := Hs.dst h6 (by rw [hn']; exact Nat.mul_pos h0 (Nat.mul_pos h1 (sz_pos ks)))
      rw [e]
      exact hap.2 _ e
theorem geo_pos {k n h wd : Nat} {x0 y0 x1 y1 : Int} (G : Geo k x0 y0 x1 y1 n h wd) (h0 : 0 < h) (h1 : 0 < wd) : 0 < n := by
  rcases G with ⟨_, rfl, _⟩ | ⟨-, -, -, hn', _⟩
  · omega
  · rw [hn']; exact Nat.mul_pos h0 (Nat.mul_pos h1 (sz_pos k))

theorem mdm1_of {w : World} {B n c b kd dh dw ks B' n' c' b' sh sw km B'' n'' c'' b'' mh mw op : Nat} {dx0 dy0 dx1 dy1 sx0 sy0 sx1 sy1 mx0 my0 mx1 my1 x0 y0 x1 y1 px py qx qy : Int} {p s m : Nat → Int} {A A' A'' : Option Addr} {td ts tm : TypeId} (hkd : kd < 6)
    (Hd : IM w B dx0 dy0 dx1 dy1 n p A c b kd td) (Hs : IM w B' sx0 sy0 sx1 sy1 n' s A' c' b' ks ts) (Hm : IM w B'' mx0 my0 mx1 my1 n'' m A'' c'' b'' km tm) (GD : Geo kd dx0 dy0 dx1 dy1 n dh dw) (GS : Geo ks sx0 sy0 sx1 sy1 n' sh sw) (GM : Geo km mx0 my0 mx1 my1 n'' mh mw)
    (hp : By p) (hs : By s) (hm : By m) (hap : Apart A b' A') (haq : Apart A b'' A'')
    (m1 : sm x0) (m2 : sm y0) (m3 : sm px) (m4 : sm py) (m5 : sm (x0 - px)) (m6 : sm (y0 - py)) (m7 : sm qx) (m8 : sm qy) (m9 : sm (x0 - qx)) (m10 : sm (y0 - qy)) (m11 : sm x1) (m12 : sm y1)
    (HX : ∀ {rx ry xe ye ax ay ux uy : Nat} {b0 b1 b2 b3 p0 p1 q0 q1 : Int} (g : Nat), A = some ⟨g, 0, none⟩ → Src w b g dh dw dx0 dy0 (toP dw (sz kd) p) kd td → Src w b' (pbk ks A' b') sh sw sx0 sy0 (srcP ks sw s) ks ts → Src w b'' (pbk km A'' b'') mh mw mx0 my0 (srcP km mw m) km tm →
      b' ≠ g → pbk ks A' b' ≠ g → b'' ≠ g → pbk km A'' b'' ≠ g →
      Cl1 x0 y0 x1 y1 px py qx qy dx0 dy0 (dx0 + dw) (dy0 + dh) sx0 sy0 (sx0 + sw) (sy0 + sh) mx0 my0 (mx0 + mw) (my0 + mh) b0 b1 b2 b3 p0 p1 q0 q1 → Rct b0 b1 b2 b3 dx0 dy0 rx ry xe ye dh dw → Plc p0 p1 sx0 sy0 ax ay rx ry xe ye sh sw → Plc q0 q1 mx0 my0 ux uy rx ry xe ye mh mw →
      Calls Tryz.prog 42 #[.iface td (.pointer (some ⟨b, 0, none⟩)), vR x0 y0 x1 y1, .iface ts (.pointer (some ⟨b', 0, none⟩)), vP px py, .iface tm (.pointer (some ⟨b'', 0, none⟩)), vP qx qy, .int .i64 op] w
        (Drawn w g (sz kd) dh dw rx ry xe ye (fun r c => pxM kd ks km op (toP dw (sz kd) p r c) (srcP ks sw s (ay + (r - ry)) (ax + (c - rx))) (srcP km mw m (uy + (r - ry)) (ux + (c - rx)))) (toP dw (sz kd) p))) :
    Calls Tryz.prog 42 #[.iface td (.pointer (some ⟨b, 0, none⟩)), vR x0 y0 x1 y1, .iface ts (.pointer (some ⟨b', 0, none⟩)), vP px py, .iface tm (.pointer (some ⟨b'', 0, none⟩)), vP qx qy, .int .i64 op] w
      (DMout w B n c A (resB kd dw (In1 x0 y0 x1 y1 px py qx qy dx0 dy0 sx0 sy0 mx0 my0 sh sw mh mw) (fun r c => pxM kd ks km op (toP dw (sz kd) p r c) (srcAt ks sw s x0 y0 px py dx0 dy0 sx0 sy0 r c) (srcAt km mw m x0 y0 qx qy dx0 dy0 mx0 my0 r c)) p)) := by
  obtain ⟨rfl, rfl, g1, g2, g3, g4⟩ := GD.ends
  obtain ⟨rfl, rfl, k1, k2, k3, k4⟩ := GS.ends
  obtain ⟨rfl, rfl, l1, l2, l3, l4⟩ := GM.ends
  have GD' := GD
  rcases GD with ⟨h6, _⟩ | ⟨-, -, -, hn, d1, d2, v1, v2, v3, v4⟩
  · omega
  obtain ⟨b0, b1, b2, b3, p0, p1, q0, q1, hC⟩ := cl1_ex (x0 := x0) (y0 := y0) (x1 := x1) (y1 := y1) (px := px) (py := py) (qx := qx) (qy := qy) (d0 := dx0) (d1 := dy0) (d2 := dx0 + dw) (d3 := dy0 + dh) (s0 := sx0) (s1 := sy0) (s2 := sx0 + sw) (s3 := sy0 + sh) (m0 := mx0) (m1 := my0) (m2 := mx0 + mw) (m3 := my0 + mh)
    m1 m2 m3 m4 m7 m8 k1 k2 k3 k4 m5 m6 l1 l2 l3 l4 m9 m10 m11 m12
  cases hE : emp b0 b1 b2 b3
  · obtain ⟨rx, ry, xe, ye, ax, ay, ux, uy, hR, hP, hQ, hI, hat⟩ := cl1_geo hC hE
    have hR' := hR
    obtain ⟨-, -, -, -, r1, r2, r3, r4⟩ := hR'
    have hP' := hP
    obtain ⟨-, -, r5, r6⟩ := hP'
    have hQ' := hQ
    obtain ⟨-, -, r7, r8⟩ := hQ'
    have hpos : 0 < n := geo_pos GD' (by omega) (by omega)
    obtain ⟨g, rfl, hg, hgl, hgb⟩ := Hd.dst (by omega) hpos
    obtain ⟨S1, -, -⟩ := Hd.src GD' hp hpos
    obtain ⟨S2, -, -⟩ := Hs.src GS hs (geo_pos GS (by omega) (by omega))
    obtain ⟨S3, -, -⟩ := Hm.src GM hm (geo_pos GM (by omega) (by omega))
    have e1 : pbk kd (some ⟨g, 0, none⟩) b = g := by unfold pbk; rw [if_neg (by omega)]; rfl
    have e2 : srcP kd dw p = toP dw (sz kd) p := by unfold srcP; rw [if_neg (by omega)]
    rw [e1, e2] at S1
    obtain ⟨t1, t2⟩ := apart_of (hap _ rfl) Hs GS (by omega) (by omega)
    obtain ⟨t3, t4⟩ := apart_of (haq _ rfl) Hm GM (by omega) (by omega)
    refine (HX g rfl S1 S2 S3 t1 t2 t3 t4 hC hR hP hQ).mono ?_
    rintro e w' ⟨rfl, h1, h2⟩
    have hle := (Hd.own (by omega)).le
    refine ⟨rfl, h1, (own_pix h2 hg hn hle.1 hle.2).congr ?_⟩
    refine res_in hn hI ?_
    intro r c hr hc hi
    obtain ⟨t1, t2, t3, t4⟩ := hat r c hi
    unfold srcAt
    rw [← t1, ← t2, ← t3, ← t4, Int.toNat_natCast, Int.toNat_natCast, Int.toNat_natCast, Int.toNat_natCast]
  · refine (dm_emp1 w Hd.bd Hs.bd Hm.bd hC hE).mono ?_
    rintro e w' ⟨rfl, hg⟩
    refine ⟨rfl, gb_weak hg _, ((Hd.own (by omega)).kept0 hg).congr ?_⟩
    exact res_none hn (cl1_emp hC hE)
end Go.Proofs.YtgjpohmjkhgpfaaGreat

namespace Go.Proofs.YtgjpohmjkhgpfaaGreat
open Go.RowKit

theorem nsrc_px (d s : Nat → Int) (ch : Nat) : px0 0 1 1 d s ch = cl 1 s ch / 256 := by
  unfold px0 mix0; rw [en0, if_neg (by omega)]

set_option maxRecDepth 100000 in
set_option maxHeartbeats 8000000 in
theorem drawNRGBASrc_c {bd pd dh dw bs ps sh sw rx ry xe ye sx sy : Nat} {dx0 dy0 sx0 sy0 x0 y0 x1 y1 spx spy : Int} {D S : Nat → Nat → Nat → Int} {T1 T2 : TypeId} (w : World)
    (Hd : Pic w bd T1 pd 4 dh dw dx0 dy0 D) (Hs : Pic w bs T2 ps 4 sh sw sx0 sy0 S) (hne2 : bs ≠ pd) (hne3 : ps ≠ pd)
    (HR : Rct x0 y0 x1 y1 dx0 dy0 rx ry xe ye dh dw) (HP : Plc spx spy sx0 sy0 sx sy rx ry xe ye sh sw) :
    Calls Tryz.prog 65 #[.pointer (some ⟨bd, 0, none⟩), vR x0 y0 x1 y1, .pointer (some ⟨bs, 0, none⟩), vP spx spy] w
      (Drawn w pd 4 dh dw rx ry xe ye (fun r c => px0 0 1 1 (D r c) (S (sy + (r - ry)) (sx + (c - rx)))) D) := by
  obtain ⟨nd, cd, st, d0, d1, d2, d3, -, -, b1, hpd, hnd, hst, hcd, hmx, hne, l7, l8, v1, v2, v3, v4, hB⟩ := Hd.cells
  obtain ⟨ns, cs, ss, s0, s1, s2, s3, -, -, b2, hps, hns, hss, hcs, hmx2, -, l9, l10, v5, v6, v7, v8, hBs⟩ := Hs.cells
  obtain ⟨e1, e2, e3, e4, l1, l2, l3, l4⟩ := HR
  obtain ⟨e5, e6, l5, l6⟩ := HP
  have a1 : -4000 ≤ x0 ∧ x0 ≤ 4000 ∧ -4000 ≤ y0 ∧ y0 ≤ 4000 := by omega
  have a2 : -4000 ≤ x1 ∧ x1 ≤ 4000 ∧ -4000 ≤ y1 ∧ y1 ≤ 4000 := by omega
  have a3 : -4000 ≤ spx ∧ spx ≤ 4000 ∧ -4000 ≤ spy ∧ spy ≤ 4000 := by omega
  have q1 : st ≤ 512 := by omega
  have q2 : ss ≤ 1024 := by omega
  have Hnd := hid hnd
  have Hns := hid hns
  have Hst := hid hst
  have Hss := hid hss
  have HB := hid hB
  have HBs := hid hBs
  have HHd := hid Hd
  have HHs := hid Hs
  clear hnd hns hst hss hB hBs Hd Hs
  obtain ⟨F, hF⟩ : ∃ F : Nat → Nat → Nat → Int, F = fun r c => px0 0 1 1 (D r c) (S (sy + (r - ry)) (sx + (c - rx))) := ⟨_, rfl⟩
  rw [← hF]
  have HF := hid hF
  clear hF
  go_enter Tryz.func65, Tryz.ntmps65
  go_wp2
  go_quiet (fail)
  go_wp2
  go_quiet (fail)
  go_wp2
  go_quiet (fail)
  go_wp2
  go_quiet (fail)
  go_wp2
  go_quiet (fail)
  go_wp2
  go_quiet (fail)
  go_wp2
  go_loopw [12, 13] (fun u v wr => ∃ j : Nat, ry + j ≤ ye ∧ u = .int .i64 ((ry + j : Nat) : Int) ∧ v = .int .i64 ((sy + j : Nat) : Int) ∧ w.grownBy wr (some pd) ∧
       PixI wr pd dh dw 4 (pt (fw rx xe ry j 0) F D)) (fun u _ _ => ye - (intOf u).toNat)
  case atStart =>
    refine ⟨0, by omega, rfl, rfl, by (repeat (first | exact gb_refl _ _ | refine gb_drewN ?_ _ | refine gb_alloc ?_ _)), ?_⟩
    exact pt_start (by (repeat (first | exact hpd | refine PixI.drewN ?_ _ | refine PixI.alloc ?_ _))) (fun r c _ _ => by unfold fw; omega)
  case round =>
    obtain ⟨j, hj, rfl, rfl, hgb, hg'⟩ := hrel
    have D0 : wr.cell? ⟨bd, 0, none⟩ = some (.slice (some ⟨pd, 0, none⟩) nd cd) := (gb_cell hgb b1 hne).trans d0
    have D1 : wr.cell? ⟨bd, 1, none⟩ = some (.int .i64 st) := (gb_cell hgb b1 hne).trans d1
    have S0 : wr.cell? ⟨bs, 0, none⟩ = some (.slice (some ⟨ps, 0, none⟩) ns cs) := (gb_cell hgb b2 hne2).trans s0
    have S1 : wr.cell? ⟨bs, 1, none⟩ = some (.int .i64 ss) := (gb_cell hgb b2 hne2).trans s1
    clear d0 d1 s0 s1 hpd
    by_cases hlt : ry + j < ye
    · obtain ⟨ro, hro⟩ : ∃ ro : Nat, (ry + j) * st = ro := ⟨_, rfl⟩
      obtain ⟨so, hso⟩ : ∃ so : Nat, (sy + j) * ss = so := ⟨_, rfl⟩
      have f1 : ((ry : Int) + j) * st = ro := by rw [← hro]; push_cast; rfl
      have f2 : ((sy : Int) + j) * ss = so := by rw [← hso]; push_cast; rfl
      have f3 : ro + xe * 4 ≤ nd := by
        have hh := pix_bound (h := dh) (wd := dw) (k := 4) (r := ry + j) (c := xe - 1) (ch := 3) (by omega) (by omega) (by omega)
        rw [Hst.out, hro] at hh; rw [Hnd.out]; omega
      have f4 : so + (sx + (xe - rx)) * 4 ≤ ns := by
        have hh := pix_bound (h := sh) (wd := sw) (k := 4) (r := sy + j) (c := sx + (xe - rx) - 1) (ch := 4 - 1) (by omega) (by omega) (by omega)
        rw [Hss.out, hso] at hh; rw [Hns.out]; omega
      have Hro := hid hro
      have Hso := hid hso
      clear hro hso
      go_wp2
      go_quiet (fail)
      go_wp2
      go_quiet (fail)
      go_wp2
      obtain ⟨wo, ho⟩ : ∃ wo : World, wo = wr := ⟨_, rfl⟩
      clear f1 f2
      go_loopw [16, 17] (fun u v wr => ∃ i : Nat, rx + i ≤ xe ∧ u = .int .i64 (((rx + i) * 4 : Nat) : Int) ∧ v = .int .i64 (((sx + i) * 4 : Nat) : Int) ∧ w.grownBy wr (some pd) ∧
           PixI wr pd dh dw 4 (pt (fw rx xe ry j i) F D)) (fun u _ _ => xe * 4 - (intOf u).toNat)
      case atStart => exact ⟨0, by omega, by first | (simp; done) | go_num, by first | (simp; done) | go_num, by (repeat (first | exact hgb | refine gb_drewN ?_ _ | refine gb_alloc ?_ _)), hg'⟩
      case round =>
        clear ho wo D0 D1 S0 S1 hg' hgb
        obtain ⟨i, hi, rfl, rfl, hgb, hg⟩ := hrel
        have hpsr : PixI wr ps sh sw 4 S := hps.kept (gb_block hgb hps.lt hne3)
        by_cases hlti : rx + i < xe
        · obtain ⟨dp, hdp⟩ : ∃ dp : Nat → Int, D (ry + j) (rx + i) = dp := ⟨_, rfl⟩
          obtain ⟨sp, hsp⟩ : ∃ sp : Nat → Int, S (sy + j) (sx + i) = sp := ⟨_, rfl⟩
          have hFv : F (ry + j) (rx + i) = px0 0 1 1 dp sp := by
            rw [HF.out]; dsimp only; rw [hdp, show sy + (ry + j - ry) = sy + j by omega, show sx + (rx + i - rx) = sx + i by omega, hsp]
          have bdp : By dp := by rw [← hdp]; exact HB.out _ _
          have bsp : By sp := by rw [← hsp]; exact HBs.out _ _
          have C0 : wr.cell? ⟨ps, so + (sx + i) * 4, none⟩ = some (.int .u8 (sp 0)) := by
            rw [← hsp]; exact hpsr.cell (by omega) (by omega) (by omega) (by rw [Hss.out, Hso.out]; try rfl)
          have C1 : wr.cell? ⟨ps, so + (sx + i) * 4 + 1, none⟩ = some (.int .u8 (sp 1)) := by
            rw [← hsp]; exact hpsr.cell (by omega) (by omega) (by omega) (by rw [Hss.out, Hso.out]; try rfl)
          have C2 : wr.cell? ⟨ps, so + (sx + i) * 4 + 2, none⟩ = some (.int .u8 (sp 2)) := by
            rw [← hsp]; exact hpsr.cell (by omega) (by omega) (by omega) (by rw [Hss.out, Hso.out]; try rfl)
          have C3 : wr.cell? ⟨ps, so + (sx + i) * 4 + 3, none⟩ = some (.int .u8 (sp 3)) := by
            rw [← hsp]; exact hpsr.cell (by omega) (by omega) (by omega) (by rw [Hss.out, Hso.out]; try rfl)
          have k0 := hg.cell (r := ry + j) (c := rx + i) (ch := 0) (i := ro + (rx + i) * 4) (by omega) (by omega) (by omega) (by rw [Hst.out, Hro.out]; rfl)
          have k1 := hg.cell (r := ry + j) (c := rx + i) (ch := 1) (i := ro + (rx + i) * 4 + 1) (by omega) (by omega) (by omega) (by rw [Hst.out, Hro.out])
          have k2 := hg.cell (r := ry + j) (c := rx + i) (ch := 2) (i := ro + (rx + i) * 4 + 2) (by omega) (by omega) (by omega) (by rw [Hst.out, Hro.out])
          have k3 := hg.cell (r := ry + j) (c := rx + i) (ch := 3) (i := ro + (rx + i) * 4 + 3) (by omega) (by omega) (by omega) (by rw [Hst.out, Hro.out])
          rw [pt_neg (by unfold fw; omega), hdp] at k0 k1 k2 k3
          have F0 := fun k => hg.free k
          have B0 := bdp 0; have B1 := bdp 1; have B2 := bdp 2; have B3 := bdp 3
          have E0 := bsp 0; have E1 := bsp 1; have E2 := bsp 2; have E3 := bsp 3
          have P0 := prod3 E0 E3; have P1 := prod3 E1 E3; have P2 := prod3 E2 E3
          rw [← nmul] at P0 P1 P2
          have HFv := hid hFv
          have Hg := hid hg
          have Hdp := hid (And.intro hdp bdp)
          have Hsp := hid (And.intro hsp bsp)
          have Hps := hid hpsr
          clear hg hdp hsp bdp bsp hFv hpsr
          have hne4 : pd ≠ ps := fun e => hne3 e.symm
          go_wp2
          refine ⟨⟨i + 1, by omega, by go_num, by go_num, ?_, ?_⟩, by simp [intOf]; omega⟩
          · exact gb_setCell (gb_setCell (gb_setCell (gb_setCell hgb (.inl rfl) _) (.inl rfl) _) (.inl rfl) _) (.inl rfl) _
          · refine pix4 (dn := fw rx xe ry j i) Hg.out (r := ry + j) (c := rx + i) (by omega) (by omega) (by rw [Hst.out, Hro.out]) (fun r' c' => by unfold fw; omega) ?_ ?_ ?_ ?_
            all_goals (rw [HFv.out])
            all_goals (rw [nsrc_px, cl1])
            all_goals (first | rw [if_neg (by decide), nmul] | rw [if_pos rfl])
        · go_wp2
          refine ⟨⟨j + 1, by omega, by go_num, by go_num, hgb, ?_⟩, by simp [intOf]; omega⟩
          exact pt_turn hg (fun r c _ _ => by unfold fw; omega)
    · go_wp2
      go_end0
      exact ⟨rfl, hgb, pt_turn hg' (fun r c _ _ => by unfold fw inR; omega)⟩
end Go.Proofs.YtgjpohmjkhgpfaaGreat
