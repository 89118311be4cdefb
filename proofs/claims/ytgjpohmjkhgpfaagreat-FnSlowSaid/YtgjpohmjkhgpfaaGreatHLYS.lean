/- The laws' drawn through a mask, at whatever destination; what the laws with a mask ask of the reference. No condition. -/
import Derived.Test.YtgjpohmjkhgpfaaGreatHb
import Derived.Test.YtgjpohmjkhgpfaaGreatHLC1
import Derived.Test.YtgjpohmjkhgpfaaGreatHLZ0
import Derived.Test.YtgjpohmjkhgpfaaGreatHLZ2
import Derived.Test.YtgjpohmjkhgpfaaGreatHLZ4
set_option linter.unusedSimpArgs false
set_option linter.unusedVariables false
namespace Go.Proofs.YtgjpohmjkhgpfaaGreat
open Go.RowKit

theorem drawnM_c {kd n n' cd cg cs dh dw ks sh sw op km mh mw bm cm n'' : Nat} {Xd0 Yd0 Xd1 Yd1 X0 Y0 X1 Y1 b0 b1 b2 b3 p0 p1 k0 k1 Xm0 Ym0 Xm1 Ym1 : Int} {Ad Ag As Am : Option Addr} {p q s m : Nat → Int} (w : World) (hkd : kd = 0 ∨ kd = 4 ∨ kd = 2) (hop : op ≤ 1)
    (hd : Rd w Ad n p) (hq : Rd w Ag n q) (hs : Rd w As n' s) (hpb : By p) (hqb : By q) (hsb : By s) (c1 : n ≤ cd) (c2 : cd ≤ 9223372036854775807) (c3 : n ≤ cg) (c4 : cg ≤ 9223372036854775807) (c5 : n' ≤ cs) (c6 : cs ≤ 9223372036854775807)
    (gx : Xd1 = Xd0 + dw) (gy : Yd1 = Yd0 + dh) (gm : n = dh * (dw * sz kd)) (gw : dw ≤ 128) (gh : dh ≤ 128) (gv : -64 ≤ Xd0 ∧ Xd0 ≤ 64 ∧ -64 ≤ Yd0 ∧ Yd0 ≤ 64)
    (hG : AtOK ks X0 Y0 X1 n' sh sw) (hpm : ∀ r c, Pm ks (srcP ks sw s r c)) (hbp : -9000000000 ≤ b0 ∧ b0 ≤ 9000000000 ∧ -9000000000 ≤ b1 ∧ b1 ≤ 9000000000 ∧ -9000000000 ≤ p0 ∧ p0 ≤ 9000000000 ∧ -9000000000 ≤ p1 ∧ p1 ≤ 9000000000)
    (hbm : CellsAt w bm [.int .i64 km, .int .i64 Xm0, .int .i64 Ym0, .int .i64 Xm1, .int .i64 Ym1, .slice Am n'' cm]) (hm : Rd w Am n'' m) (hmb : By m) (c7 : n'' ≤ cm) (c8 : cm ≤ 9223372036854775807) (hGm : AtOK km Xm0 Ym0 Xm1 n'' mh mw) (hbk : -9000000000 ≤ k0 ∧ k0 ≤ 9000000000 ∧ -9000000000 ≤ k1 ∧ k1 ≤ 9000000000)
    (hout : ∀ r c ch, r < dh → c < dw → ch < sz kd → ¬ InC b0 b1 b2 b3 Xd0 Yd0 r c → q ((r * dw + c) * sz kd + ch) = p ((r * dw + c) * sz kd + ch))
    (hin : ∀ r c, r < dh → c < dw → InC b0 b1 b2 b3 Xd0 Yd0 r c → ∃ sr sc mr mc : Nat, (ks = 6 ∨ (p0 + (Xd0 + (c : Int)) - b0 - X0 = sc ∧ p1 + (Yd0 + (r : Int)) - b1 - Y0 = sr ∧ sc < sw ∧ sr < sh)) ∧ (km = 6 ∨ (k0 + (Xd0 + (c : Int)) - b0 - Xm0 = mc ∧ k1 + (Yd0 + (r : Int)) - b1 - Ym0 = mr ∧ mc < mw ∧ mr < mh)) ∧
      NearV kd (fun ch => q ((r * dw + c) * sz kd + ch)) (fun i => cmp op (cl kd (srcP kd dw p r c) i) (cl ks (srcP ks sw s sr sc) i) (cl ks (srcP ks sw s sr sc) 3) (cl km (srcP km mw m mr mc) 3))) :
    Calls Tryz.prog 20 #[vI kd Xd0 Yd0 Xd1 Yd1 Ad n cd, .slice Ag n cg, vR b0 b1 b2 b3, vP p0 p1, vP k0 k1, vI ks X0 Y0 X1 Y1 As n' cs, .pointer (some ⟨bm, 0, none⟩), .int .i64 op] w fun e w' => e = .returned (.bool true) ∧ w.grownBy w' none := by
  rcases hkd with rfl | rfl | rfl
  · exact drawnM_0 w hop hd hq hs hpb hqb hsb c1 c2 c3 c4 c5 c6 gx gy gm gw gh gv hG hpm hbp hbm hm hmb c7 c8 hGm hbk hout hin
  · exact drawnM_4 w hop hd hq hs hpb hqb hsb c1 c2 c3 c4 c5 c6 gx gy gm gw gh gv hG hpm hbp hbm hm hmb c7 c8 hGm hbk hout hin
  · exact drawnM_2 w hop hd hq hs hpb hqb hsb c1 c2 c3 c4 c5 c6 gx gy gm gw gh gv hG hpm hbp hbm hm hmb c7 c8 hGm hbk hout hin
theorem cl1_small {q0 q1 q2 q3 px py qx qy d0 d1 d2 d3 s0 s1 s2 s3 m0 m1 m2 m3 b0 b1 b2 b3 p0 p1 k0 k1 : Int} (h : Cl1 q0 q1 q2 q3 px py qx qy d0 d1 d2 d3 s0 s1 s2 s3 m0 m1 m2 m3 b0 b1 b2 b3 p0 p1 k0 k1) :
    (-9000000000 ≤ b0 ∧ b0 ≤ 9000000000 ∧ -9000000000 ≤ b1 ∧ b1 ≤ 9000000000 ∧ -9000000000 ≤ p0 ∧ p0 ≤ 9000000000 ∧ -9000000000 ≤ p1 ∧ p1 ≤ 9000000000) ∧ (-9000000000 ≤ k0 ∧ k0 ≤ 9000000000 ∧ -9000000000 ≤ k1 ∧ k1 ≤ 9000000000) := by
  obtain ⟨⟨u1, u2, u3, u4, u5, u6, -, -, -, -, -, -, u7, u8⟩, -, ⟨e0, e1, e2, e3⟩, -⟩ := h
  unfold sm at *
  omega
end Go.Proofs.YtgjpohmjkhgpfaaGreat
