/- The law FnNothingIsKept, in plain terms: a transparent mask, a transparent image. No condition. -/
import Derived.Test.YtgjpohmjkhgpfaaGreatHLU
set_option linter.unusedSimpArgs false
set_option linter.unusedVariables false
namespace Go.Proofs.YtgjpohmjkhgpfaaGreat
open Go.RowKit

theorem in0_iff {dh dw sh sw : Nat} {Xd0 Yd0 sx0 sy0 q0 q1 q2 q3 px py k0 k1 b0 b1 b2 b3 p0 p1 : Int}
    (HC : Cl0 q0 q1 q2 q3 px py 0 0 Xd0 Yd0 (Xd0 + dw) (Yd0 + dh) sx0 sy0 (sx0 + sw) (sy0 + sh) b0 b1 b2 b3 p0 p1 k0 k1) {r c : Nat} (hr : r < dh) (hc : c < dw) :
    In0 q0 q1 q2 q3 px py Xd0 Yd0 sx0 sy0 sh sw r c ↔ InC b0 b1 b2 b3 Xd0 Yd0 r c := by
  cases hE : emp b0 b1 b2 b3
  · obtain ⟨rx, ry, xe, ye, ax, ay, hR, hP, hI, hat⟩ := cl0_geo HC hE
    obtain ⟨e1, e2, e3, e4, l1, l2, l3, l4⟩ := hR
    rw [← hI r c hr hc]
    unfold InC inR
    omega
  · refine ⟨fun h => absurd h (cl0_emp HC hE r c hr hc), fun h => ?_⟩
    unfold InC at h
    have := emp_t.1 hE
    omega

open Classical in
/-- what a drawing of nothing leaves -/
noncomputable def keptP (kd dw op : Nat) (b0 b1 b2 b3 Xd0 Yd0 : Int) (p : Nat → Int) (r c ch : Nat) : Int :=
  if op = 1 ∧ InC b0 b1 b2 b3 Xd0 Yd0 r c then 0 else p ((r * dw + c) * sz kd + ch)

/-- any drawing whose pixels are 0 by Src and the old ones by Over -/
theorem kept_of {kd op dh dw : Nat} {Xd0 Yd0 b0 b1 b2 b3 : Int} {I : Nat → Nat → Prop} {F : Nat → Nat → Nat → Int} {p : Nat → Int} (hkd : kd = 0 ∨ kd = 2 ∨ kd = 4) (hop : op ≤ 1)
    (hI : ∀ r c, r < dh → c < dw → (I r c ↔ InC b0 b1 b2 b3 Xd0 Yd0 r c)) (hF : ∀ r c ch, ch < sz kd → F r c ch = if op = 0 then toP dw (sz kd) p r c ch else 0) {r c ch : Nat} (hr : r < dh) (hc : c < dw) (hch : ch < sz kd) :
    cutN (dh * (dw * sz kd)) (resB kd dw I F p) ((r * dw + c) * sz kd + ch) = keptP kd dw op b0 b1 b2 b3 Xd0 Yd0 p r c ch := by
  rw [cutN_lt (at_lt hr hc hch)]
  unfold keptP
  by_cases h : I r c
  · rw [res_atk hc hch h, hF r c ch hch]
    have h' := (hI r c hr hc).1 h
    by_cases ho : op = 0
    · have hn : ¬ (op = 1 ∧ InC b0 b1 b2 b3 Xd0 Yd0 r c) := fun h => by have := h.1; omega
      rw [if_pos ho, if_neg hn]
      show p (r * (dw * sz kd) + c * sz kd + ch) = _
      rw [Nat.add_mul, Nat.mul_assoc]
    · have hy : op = 1 ∧ InC b0 b1 b2 b3 Xd0 Yd0 r c := ⟨by omega, h'⟩
      rw [if_neg ho, if_pos hy]
  · have hn : ¬ (op = 1 ∧ InC b0 b1 b2 b3 Xd0 Yd0 r c) := fun h' => h ((hI r c hr hc).2 h'.2)
    rw [res_ofk hc hch h, if_neg hn]

/-- by a transparent image -/
theorem kept_src {kd ks op dh dw sh sw : Nat} {Xd0 Yd0 sx0 sy0 q0 q1 q2 q3 px py k0 k1 b0 b1 b2 b3 p0 p1 : Int} {p : Nat → Int} (hkd : kd = 0 ∨ kd = 2 ∨ kd = 4) (hop : op ≤ 1) (hks : ks ≠ 3 ∧ ks ≠ 5) (hp : By p)
    (HC : Cl0 q0 q1 q2 q3 px py 0 0 Xd0 Yd0 (Xd0 + dw) (Yd0 + dh) sx0 sy0 (sx0 + sw) (sy0 + sh) b0 b1 b2 b3 p0 p1 k0 k1) {r c ch : Nat} (hr : r < dh) (hc : c < dw) (hch : ch < sz kd) :
    cutN (dh * (dw * sz kd)) (resB kd dw (In0 q0 q1 q2 q3 px py Xd0 Yd0 sx0 sy0 sh sw) (fun r c => px0 kd ks op (toP dw (sz kd) p r c) (srcAt ks sw (fun _ => 0) q0 q1 px py Xd0 Yd0 sx0 sy0 r c)) p) ((r * dw + c) * sz kd + ch) =
      keptP kd dw op b0 b1 b2 b3 Xd0 Yd0 p r c ch := by
  refine kept_of hkd hop (fun r c hr hc => in0_iff HC hr hc) (fun r c ch hch => ?_) hr hc hch
  refine px0_zero hkd (by_toP hp _ _ _ _) (fun i => cl_zero hks (fun j => ?_) i) hch
  unfold srcAt srcP
  split <;> rfl

/-- by a transparent mask -/
theorem kept_mask {kd ks op dh dw sh sw : Nat} {Xd0 Yd0 sx0 sy0 q0 q1 q2 q3 px py k0 k1 b0 b1 b2 b3 p0 p1 : Int} {p s : Nat → Int} (hkd : kd = 0 ∨ kd = 2 ∨ kd = 4) (hop : op ≤ 1) (hp : By p)
    (hx : -100000000 ≤ q0 ∧ q0 ≤ 100000000 ∧ -100000000 ≤ q1 ∧ q1 ≤ 100000000) (hd : -100000000 ≤ Xd0 ∧ Xd0 ≤ 100000000 ∧ -100000000 ≤ Yd0 ∧ Yd0 ≤ 100000000) (hw : dw ≤ 128) (hh : dh ≤ 128)
    (HC : Cl0 q0 q1 q2 q3 px py 0 0 Xd0 Yd0 (Xd0 + dw) (Yd0 + dh) sx0 sy0 (sx0 + sw) (sy0 + sh) b0 b1 b2 b3 p0 p1 k0 k1) {r c ch : Nat} (hr : r < dh) (hc : c < dw) (hch : ch < sz kd) :
    cutN (dh * (dw * sz kd)) (resB kd dw (In1 q0 q1 q2 q3 px py 0 0 Xd0 Yd0 sx0 sy0 (-1000000000) (-1000000000) sh sw 2000000000 2000000000) (fun r c => pxM kd ks 6 op (toP dw (sz kd) p r c) (srcAt ks sw s q0 q1 px py Xd0 Yd0 sx0 sy0 r c) (srcAt 6 2000000000 (fun _ => 0) q0 q1 0 0 Xd0 Yd0 (-1000000000) (-1000000000) r c)) p) ((r * dw + c) * sz kd + ch) =
      keptP kd dw op b0 b1 b2 b3 Xd0 Yd0 p r c ch := by
  refine kept_of hkd hop (fun r c hr hc => ?_) (fun r c ch hch => ?_) hr hc hch
  · rw [← in0_iff HC hr hc]
    unfold In1
    exact ⟨And.left, fun h => ⟨h, by omega, by omega, by omega, by omega⟩⟩
  · refine pxM_zero hkd (by_toP hp _ _ _ _) ?_ hch
    have em : srcAt 6 2000000000 (fun _ => 0) q0 q1 0 0 Xd0 Yd0 (-1000000000) (-1000000000) r c = fun _ => 0 := by
      unfold srcAt srcP
      rw [if_pos rfl]
    rw [em]
    exact cl_zero ⟨by decide, by decide⟩ (fun _ => rfl) 3
end Go.Proofs.YtgjpohmjkhgpfaaGreat
