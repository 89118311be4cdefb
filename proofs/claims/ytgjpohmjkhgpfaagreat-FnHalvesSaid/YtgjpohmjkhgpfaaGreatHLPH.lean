/- The laws FnHalves and FnMoved, in plain terms: what is drawn in two halves, what is drawn elsewhere. No condition. -/
import Derived.Test.YtgjpohmjkhgpfaaGreatHN14
import Derived.Test.YtgjpohmjkhgpfaaGreatHa
set_option linter.unusedSimpArgs false
set_option linter.unusedVariables false
namespace Go.Proofs.YtgjpohmjkhgpfaaGreat
open Go.RowKit

theorem pxM_congr {kd ks km op : Nat} (hk : kd = 0 ∨ kd = 2 ∨ kd = 4) {d d' s m : Nat → Int} (h : ∀ ch, ch < sz kd → d ch = d' ch) {ch : Nat} (hc : ch < sz kd) : pxM kd ks km op d s m ch = pxM kd ks km op d' s m ch := by
  rcases hk with rfl | rfl | rfl
  · have e : cl 0 d ch = cl 0 d' ch := by
      show d ch * 257 = d' ch * 257
      rw [h ch hc]
    show mixM op (cl 0 d ch) _ _ _ / 256 = mixM op (cl 0 d' ch) _ _ _ / 256
    rw [e]
  · have e : cl 2 d 3 = cl 2 d' 3 := by
      show d 0 * 257 = d' 0 * 257
      rw [h 0 (by decide)]
    show mixM op (cl 2 d 3) _ _ _ / 256 = mixM op (cl 2 d' 3) _ _ _ / 256
    rw [e]
  · have h8 : ch < 8 := hc
    have e : cl 4 d (ch / 2) = cl 4 d' (ch / 2) := by
      show d (2 * (ch / 2)) * 256 + d (2 * (ch / 2) + 1) = d' (2 * (ch / 2)) * 256 + d' (2 * (ch / 2) + 1)
      rw [h (2 * (ch / 2)) (show 2 * (ch / 2) < 8 by omega), h (2 * (ch / 2) + 1) (show 2 * (ch / 2) + 1 < 8 by omega)]
    show (if ch % 2 = 0 then mixM op (cl 4 d (ch / 2)) _ _ _ / 256 else mixM op (cl 4 d (ch / 2)) _ _ _ % 256) = (if ch % 2 = 0 then mixM op (cl 4 d' (ch / 2)) _ _ _ / 256 else mixM op (cl 4 d' (ch / 2)) _ _ _ % 256)
    rw [e]
/-- each byte is a pixel's -/
theorem idx_ex {dh dw k i : Nat} (hi : i < dh * (dw * k)) : ∃ r c ch, r < dh ∧ c < dw ∧ ch < k ∧ i = (r * dw + c) * k + ch := by
  obtain ⟨h1, h2, h3⟩ := un_lt hi
  refine ⟨_, _, _, h1, h2, h3, ?_⟩
  have e1 := Nat.div_add_mod i (dw * k)
  have e2 := Nat.div_add_mod (i % (dw * k)) k
  rw [Nat.add_mul, Nat.mul_assoc, Nat.mul_comm (i / (dw * k)), Nat.mul_comm (i % (dw * k) / k)]
  omega

/-- a rectangle in two halves: below one another, or side by side -/
def Half (q0 q1 q2 q3 f2 f3 e0 e1 ddx ddy : Int) : Prop :=
  (f2 = q2 ∧ e0 = q0 ∧ ddx = 0 ∧ f3 = e1 ∧ ddy = e1 - q1 ∧ q1 ≤ e1 ∧ e1 ≤ q3) ∨ (f3 = q3 ∧ e1 = q1 ∧ ddy = 0 ∧ f2 = e0 ∧ ddx = e0 - q0 ∧ q0 ≤ e0 ∧ e0 ≤ q2)

theorem halves_eq {kd ks km op dh dw sh sw mh mw i : Nat} {q0 q1 q2 q3 f2 f3 e0 e1 ddx ddy px py qx qy Xd0 Yd0 sx0 sy0 mx0 my0 : Int} {p s m h : Nat → Int} (hkd : kd = 0 ∨ kd = 2 ∨ kd = 4) (H : Half q0 q1 q2 q3 f2 f3 e0 e1 ddx ddy)
    (hh : cutN (dh * (dw * sz kd)) (resB kd dw (In1 q0 q1 f2 f3 px py qx qy Xd0 Yd0 sx0 sy0 mx0 my0 sh sw mh mw) (fun r c => pxM kd ks km op (toP dw (sz kd) p r c) (srcAt ks sw s q0 q1 px py Xd0 Yd0 sx0 sy0 r c) (srcAt km mw m q0 q1 qx qy Xd0 Yd0 mx0 my0 r c)) p) = h) (hi : i < dh * (dw * sz kd)) :
    resB kd dw (In1 e0 e1 q2 q3 (px + ddx) (py + ddy) (qx + ddx) (qy + ddy) Xd0 Yd0 sx0 sy0 mx0 my0 sh sw mh mw) (fun r c => pxM kd ks km op (toP dw (sz kd) h r c) (srcAt ks sw s e0 e1 (px + ddx) (py + ddy) Xd0 Yd0 sx0 sy0 r c) (srcAt km mw m e0 e1 (qx + ddx) (qy + ddy) Xd0 Yd0 mx0 my0 r c)) h i =
      resB kd dw (In1 q0 q1 q2 q3 px py qx qy Xd0 Yd0 sx0 sy0 mx0 my0 sh sw mh mw) (fun r c => pxM kd ks km op (toP dw (sz kd) p r c) (srcAt ks sw s q0 q1 px py Xd0 Yd0 sx0 sy0 r c) (srcAt km mw m q0 q1 qx qy Xd0 Yd0 mx0 my0 r c)) p i := by
  obtain ⟨r, c, ch, hr, hc, hch, rfl⟩ := idx_ex hi
  unfold Half at H
  have old0 : ¬ In1 q0 q1 f2 f3 px py qx qy Xd0 Yd0 sx0 sy0 mx0 my0 sh sw mh mw r c → ∀ ch', ch' < sz kd → h ((r * dw + c) * sz kd + ch') = p ((r * dw + c) * sz kd + ch') := fun hn ch' h' => by
    rw [← hh, cutN_lt (at_lt hr hc h')]
    exact res_ofk hc h' hn
  by_cases h2 : In1 e0 e1 q2 q3 (px + ddx) (py + ddy) (qx + ddx) (qy + ddy) Xd0 Yd0 sx0 sy0 mx0 my0 sh sw mh mw r c
  · have hn1 : ¬ In1 q0 q1 f2 f3 px py qx qy Xd0 Yd0 sx0 sy0 mx0 my0 sh sw mh mw r c := by
      unfold In1 In0 at h2 ⊢
      omega
    have hI : In1 q0 q1 q2 q3 px py qx qy Xd0 Yd0 sx0 sy0 mx0 my0 sh sw mh mw r c := by
      unfold In1 In0 at h2 ⊢
      omega
    refine (res_atk hc hch h2).trans (Eq.trans ?_ (res_atk hc hch hI).symm)
    have es : srcAt ks sw s e0 e1 (px + ddx) (py + ddy) Xd0 Yd0 sx0 sy0 r c = srcAt ks sw s q0 q1 px py Xd0 Yd0 sx0 sy0 r c := by
      unfold srcAt
      rw [show Yd0 + (r : Int) + (py + ddy - e1) - sy0 = Yd0 + (r : Int) + (py - q1) - sy0 by omega, show Xd0 + (c : Int) + (px + ddx - e0) - sx0 = Xd0 + (c : Int) + (px - q0) - sx0 by omega]
    have em : srcAt km mw m e0 e1 (qx + ddx) (qy + ddy) Xd0 Yd0 mx0 my0 r c = srcAt km mw m q0 q1 qx qy Xd0 Yd0 mx0 my0 r c := by
      unfold srcAt
      rw [show Yd0 + (r : Int) + (qy + ddy - e1) - my0 = Yd0 + (r : Int) + (qy - q1) - my0 by omega, show Xd0 + (c : Int) + (qx + ddx - e0) - mx0 = Xd0 + (c : Int) + (qx - q0) - mx0 by omega]
    rw [es, em]
    refine pxM_congr hkd (fun ch' h' => ?_) hch
    have e := old0 hn1 ch' h'
    rw [Nat.add_mul, Nat.mul_assoc] at e
    exact e
  · refine (res_ofk hc hch h2).trans ?_
    by_cases h1 : In1 q0 q1 f2 f3 px py qx qy Xd0 Yd0 sx0 sy0 mx0 my0 sh sw mh mw r c
    · have hI : In1 q0 q1 q2 q3 px py qx qy Xd0 Yd0 sx0 sy0 mx0 my0 sh sw mh mw r c := by
        unfold In1 In0 at h1 ⊢
        omega
      rw [← hh, cutN_lt (at_lt hr hc hch)]
      refine (res_atk hc hch h1).trans (Eq.trans ?_ (res_atk hc hch hI).symm)
      rfl
    · have hI : ¬ In1 q0 q1 q2 q3 px py qx qy Xd0 Yd0 sx0 sy0 mx0 my0 sh sw mh mw r c := by
        unfold In1 In0 at h1 h2 ⊢
        omega
      exact (old0 h1 ch hch).trans (res_ofk hc hch hI).symm

/-- an image's corner, moved: one color has no place -/
def mv (k : Nat) (x d : Int) : Int := if k = 6 then x else x + d
theorem srcAt_mv {k wd : Nat} {s : Nat → Int} {x0 y0 px py dx0 dy0 sx0 sy0 b0 b1 b2 b3 : Int} {r c : Nat} :
    srcAt k wd s (x0 + b0) (y0 + b1) (px + b2) (py + b3) (dx0 + b0) (dy0 + b1) (mv k sx0 b2) (mv k sy0 b3) r c = srcAt k wd s x0 y0 px py dx0 dy0 sx0 sy0 r c := by
  unfold srcAt srcP mv
  by_cases h : k = 6
  · rw [if_pos h]
  · rw [if_neg h, if_neg h, if_neg h, show dy0 + b1 + (r : Int) + (py + b3 - (y0 + b1)) - (sy0 + b3) = dy0 + (r : Int) + (py - y0) - sy0 by omega, show dx0 + b0 + (c : Int) + (px + b2 - (x0 + b0)) - (sx0 + b2) = dx0 + (c : Int) + (px - x0) - sx0 by omega]
/-- where an image of one color lies -/
def Far (k : Nat) (sx0 sy0 : Int) (sh sw : Nat) : Prop := k = 6 → sx0 = -1000000000 ∧ sy0 = -1000000000 ∧ sh = 2000000000 ∧ sw = 2000000000
theorem in1_mv {ks km sh sw mh mw r c dh dw : Nat} {q0 q1 q2 q3 px py qx qy Xd0 Yd0 sx0 sy0 mx0 my0 b0 b1 b2 b3 b4 b5 : Int} (fs : Far ks sx0 sy0 sh sw) (fm : Far km mx0 my0 mh mw) (hr : r < dh) (hc : c < dw) (gw : dw ≤ 128) (gh : dh ≤ 128)
    (hx : -100000000 ≤ q0 ∧ q0 ≤ 100000000 ∧ -100000000 ≤ q1 ∧ q1 ≤ 100000000) (hd : -100000000 ≤ Xd0 ∧ Xd0 ≤ 100000000 ∧ -100000000 ≤ Yd0 ∧ Yd0 ≤ 100000000)
    (hp : -100000000 ≤ px ∧ px ≤ 100000000 ∧ -100000000 ≤ py ∧ py ≤ 100000000) (hq : -100000000 ≤ qx ∧ qx ≤ 100000000 ∧ -100000000 ≤ qy ∧ qy ≤ 100000000)
    (hb : -100000000 ≤ b2 ∧ b2 ≤ 100000000 ∧ -100000000 ≤ b3 ∧ b3 ≤ 100000000 ∧ -100000000 ≤ b4 ∧ b4 ≤ 100000000 ∧ -100000000 ≤ b5 ∧ b5 ≤ 100000000) :
    In1 (q0 + b0) (q1 + b1) (q2 + b0) (q3 + b1) (px + b2) (py + b3) (qx + b4) (qy + b5) (Xd0 + b0) (Yd0 + b1) (mv ks sx0 b2) (mv ks sy0 b3) (mv km mx0 b4) (mv km my0 b5) sh sw mh mw r c ↔ In1 q0 q1 q2 q3 px py qx qy Xd0 Yd0 sx0 sy0 mx0 my0 sh sw mh mw r c := by
  unfold In1 In0 mv
  by_cases h : ks = 6 <;> by_cases h' : km = 6
  · obtain ⟨rfl, rfl, rfl, rfl⟩ := fs h
    obtain ⟨rfl, rfl, rfl, rfl⟩ := fm h'
    rw [if_pos h, if_pos h, if_pos h', if_pos h']
    omega
  · obtain ⟨rfl, rfl, rfl, rfl⟩ := fs h
    rw [if_pos h, if_pos h, if_neg h', if_neg h']
    omega
  · obtain ⟨rfl, rfl, rfl, rfl⟩ := fm h'
    rw [if_neg h, if_neg h, if_pos h', if_pos h']
    omega
  · rw [if_neg h, if_neg h, if_neg h', if_neg h']
    omega
theorem moved_eq {kd ks km op dh dw sh sw mh mw i : Nat} {q0 q1 q2 q3 px py qx qy Xd0 Yd0 sx0 sy0 mx0 my0 b0 b1 b2 b3 b4 b5 : Int} {p s m : Nat → Int} (fs : Far ks sx0 sy0 sh sw) (fm : Far km mx0 my0 mh mw) (gw : dw ≤ 128) (gh : dh ≤ 128)
    (hx : -100000000 ≤ q0 ∧ q0 ≤ 100000000 ∧ -100000000 ≤ q1 ∧ q1 ≤ 100000000) (hd : -100000000 ≤ Xd0 ∧ Xd0 ≤ 100000000 ∧ -100000000 ≤ Yd0 ∧ Yd0 ≤ 100000000)
    (hp : -100000000 ≤ px ∧ px ≤ 100000000 ∧ -100000000 ≤ py ∧ py ≤ 100000000) (hq : -100000000 ≤ qx ∧ qx ≤ 100000000 ∧ -100000000 ≤ qy ∧ qy ≤ 100000000)
    (hb : -100000000 ≤ b2 ∧ b2 ≤ 100000000 ∧ -100000000 ≤ b3 ∧ b3 ≤ 100000000 ∧ -100000000 ≤ b4 ∧ b4 ≤ 100000000 ∧ -100000000 ≤ b5 ∧ b5 ≤ 100000000) (hi : i < dh * (dw * sz kd)) :
    resB kd dw (In1 (q0 + b0) (q1 + b1) (q2 + b0) (q3 + b1) (px + b2) (py + b3) (qx + b4) (qy + b5) (Xd0 + b0) (Yd0 + b1) (mv ks sx0 b2) (mv ks sy0 b3) (mv km mx0 b4) (mv km my0 b5) sh sw mh mw) (fun r c => pxM kd ks km op (toP dw (sz kd) p r c) (srcAt ks sw s (q0 + b0) (q1 + b1) (px + b2) (py + b3) (Xd0 + b0) (Yd0 + b1) (mv ks sx0 b2) (mv ks sy0 b3) r c) (srcAt km mw m (q0 + b0) (q1 + b1) (qx + b4) (qy + b5) (Xd0 + b0) (Yd0 + b1) (mv km mx0 b4) (mv km my0 b5) r c)) p i =
      resB kd dw (In1 q0 q1 q2 q3 px py qx qy Xd0 Yd0 sx0 sy0 mx0 my0 sh sw mh mw) (fun r c => pxM kd ks km op (toP dw (sz kd) p r c) (srcAt ks sw s q0 q1 px py Xd0 Yd0 sx0 sy0 r c) (srcAt km mw m q0 q1 qx qy Xd0 Yd0 mx0 my0 r c)) p i := by
  obtain ⟨r, c, ch, hr, hc, hch, rfl⟩ := idx_ex hi
  have iff := in1_mv (q2 := q2) (q3 := q3) (b0 := b0) (b1 := b1) fs fm hr hc gw gh hx hd hp hq hb
  by_cases h : In1 q0 q1 q2 q3 px py qx qy Xd0 Yd0 sx0 sy0 mx0 my0 sh sw mh mw r c
  · refine (res_atk hc hch (iff.2 h)).trans (Eq.trans ?_ (res_atk hc hch h).symm)
    rw [srcAt_mv, srcAt_mv]
  · exact (res_ofk hc hch (fun h' => h (iff.1 h'))).trans (res_ofk hc hch h).symm
end Go.Proofs.YtgjpohmjkhgpfaaGreat
