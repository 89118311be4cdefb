/- The laws' drawn, at whatever destination. No condition. -/
import Derived.Test.YtgjpohmjkhgpfaaGreatHb
import Derived.Test.YtgjpohmjkhgpfaaGreatHLQ4
import Derived.Test.YtgjpohmjkhgpfaaGreatHLQ2
set_option linter.unusedSimpArgs false
set_option linter.unusedVariables false
namespace Go.Proofs.YtgjpohmjkhgpfaaGreat
open Go.RowKit

/-- the laws' drawn, at whatever destination -/
theorem drawnN_c {n n' cd cg cs dh dw ks kd sh sw op : Nat} {Xd0 Yd0 Xd1 Yd1 X0 Y0 X1 Y1 b0 b1 b2 b3 p0 p1 k0 k1 : Int} {Ad Ag As : Option Addr} {p q s : Nat → Int} (w : World) (hkd : kd = 0 ∨ kd = 4 ∨ kd = 2) (hop : op ≤ 1)
    (hd : Rd w Ad n p) (hq : Rd w Ag n q) (hs : Rd w As n' s) (hpb : By p) (hqb : By q) (hsb : By s) (c1 : n ≤ cd) (c2 : cd ≤ 9223372036854775807) (c3 : n ≤ cg) (c4 : cg ≤ 9223372036854775807) (c5 : n' ≤ cs) (c6 : cs ≤ 9223372036854775807)
    (gx : Xd1 = Xd0 + dw) (gy : Yd1 = Yd0 + dh) (gm : n = dh * (dw * sz kd)) (gw : dw ≤ 128) (gh : dh ≤ 128) (gv : -64 ≤ Xd0 ∧ Xd0 ≤ 64 ∧ -64 ≤ Yd0 ∧ Yd0 ≤ 64)
    (hG : AtOK ks X0 Y0 X1 n' sh sw) (hpm : ∀ r c, Pm ks (srcP ks sw s r c)) (hbp : -9000000000 ≤ b0 ∧ b0 ≤ 9000000000 ∧ -9000000000 ≤ b1 ∧ b1 ≤ 9000000000 ∧ -9000000000 ≤ p0 ∧ p0 ≤ 9000000000 ∧ -9000000000 ≤ p1 ∧ p1 ≤ 9000000000)
    (hout : ∀ r c ch, r < dh → c < dw → ch < sz kd → ¬ InC b0 b1 b2 b3 Xd0 Yd0 r c → q ((r * dw + c) * sz kd + ch) = p ((r * dw + c) * sz kd + ch))
    (hin : ∀ r c, r < dh → c < dw → InC b0 b1 b2 b3 Xd0 Yd0 r c → ∃ sr sc : Nat, (ks = 6 ∨ (p0 + (Xd0 + (c : Int)) - b0 - X0 = sc ∧ p1 + (Yd0 + (r : Int)) - b1 - Y0 = sr ∧ sc < sw ∧ sr < sh)) ∧
      NearV kd (fun ch => q ((r * dw + c) * sz kd + ch)) (fun i => cmp op (cl kd (srcP kd dw p r c) i) (cl ks (srcP ks sw s sr sc) i) (cl ks (srcP ks sw s sr sc) 3) 65535)) :
    Calls Tryz.prog 20 #[vI kd Xd0 Yd0 Xd1 Yd1 Ad n cd, .slice Ag n cg, vR b0 b1 b2 b3, vP p0 p1, vP k0 k1, vI ks X0 Y0 X1 Y1 As n' cs, .pointer none, .int .i64 op] w fun e w' => e = .returned (.bool true) ∧ w.grownBy w' none := by
  rcases hkd with rfl | rfl | rfl
  · exact drawnN_0 w hop hd hq hs hpb hqb hsb c1 c2 c3 c4 c5 c6 gx gy gm gw gh gv hG hpm hbp hout hin
  · exact drawnN_4 w hop hd hq hs hpb hqb hsb c1 c2 c3 c4 c5 c6 gx gy gm gw gh gv hG hpm hbp hout hin
  · exact drawnN_2 w hop hd hq hs hpb hqb hsb c1 c2 c3 c4 c5 c6 gx gy gm gw gh gv hG hpm hbp hout hin
end Go.Proofs.YtgjpohmjkhgpfaaGreat
