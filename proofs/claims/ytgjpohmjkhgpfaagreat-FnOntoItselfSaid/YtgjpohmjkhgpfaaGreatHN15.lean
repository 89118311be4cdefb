/- image/draw: DrawMask of an image onto itself, without a mask: what it leaves, at every kind of destination. No color is above its alpha. -/
import Derived.Test.YtgjpohmjkhgpfaaGreatHa
import Derived.Test.YtgjpohmjkhgpfaaGreatHY5f
import Derived.Test.YtgjpohmjkhgpfaaGreatHY5b
set_option linter.unusedSimpArgs false
set_option linter.unusedVariables false
namespace Go.Proofs.YtgjpohmjkhgpfaaGreat
open Go.RowKit

theorem mdm_self {w : World} {B n c b kd dh dw op : Nat} {dx0 dy0 dx1 dy1 x0 y0 x1 y1 px py : Int} {p : Nat → Int} {A : Option Addr} {td : TypeId} (hop : op ≤ 1) (hkd : kd = 0 ∨ kd = 2 ∨ kd = 4)
    (Hd : IM w B dx0 dy0 dx1 dy1 n p A c b kd td) (GD : Geo kd dx0 dy0 dx1 dy1 n dh dw) (hp : By p) (hpm : Pmk kd p)
    (m1 : sm x0) (m2 : sm y0) (m3 : sm px) (m4 : sm py) (m5 : sm (x0 - px)) (m6 : sm (y0 - py)) :
    Calls Tryz.prog 42 #[.iface td (.pointer (some ⟨b, 0, none⟩)), vR x0 y0 x1 y1, .iface td (.pointer (some ⟨b, 0, none⟩)), vP px py, .nilIface, vP 0 0, .int .i64 op] w
      (DMout w B n c A (resB kd dw (In0 x0 y0 x1 y1 px py dx0 dy0 dx0 dy0 dh dw) (fun r c => px0 kd kd op (toP dw (sz kd) p r c) (srcAt kd dw p x0 y0 px py dx0 dy0 dx0 dy0 r c)) p)) := by
  have hpm2 := fun r c => pm_src (wd := dw) hpm r c
  refine mdm0_of (by omega) Hd Hd GD GD hp hp m1 m2 m3 m4 m5 m6 ?_
  intro rx ry xe ye ax ay b0 b1 b2 b3 p0 p1 q0 q1 g hA S1 S2 hC hR hP
  clear S2
  have e2 : srcP kd dw p = toP dw (sz kd) p := by unfold srcP; rw [if_neg (by omega)]
  rw [e2] at hpm2 ⊢
  obtain ⟨n4, hb⟩ := src_lim S1 (by omega)
  have hop' : op = 0 ∨ op = 1 := by omega
  by_cases hk : kd = 2 ∨ kd = 4
  · cases hdir : gback (ovl b0 b1 b2 b3 (b0 + (p0 - b0)) (b1 + (p1 - b1)) (b2 + (p0 - b0)) (b3 + (p1 - b1))) b0 b1 p0 p1
    · exact dm17_sf w S1 hk hop hpm2 n4 hC hR hP hb hdir
    · exact dm17_sb w S1 hk hop hpm2 n4 hC hR hP hb hdir
  · obtain rfl : kd = 0 := by omega
    cases S1
    case k0 S1 =>
    rcases hop' with rfl | rfl
    · exact dm_0_0_0 w S1 S1 ⟨n4, .inr ⟨rfl, rfl, rfl, rfl, rfl, rfl, rfl⟩⟩ hpm2 hC hR hP
    · have e : (fun r c => px0 0 0 1 (toP dw (sz 0) p r c) (toP dw (sz 0) p (ay + (r - ry)) (ax + (c - rx)))) = (fun r c => toP dw (sz 0) p (ay + (r - ry)) (ax + (c - rx))) := by
        funext r c; exact px_copy (by_toP hp _ _ _ _)
      rw [e]
      exact dm_0_0_1 w S1 S1 n4 (fun w' hg => ⟨by obtain ⟨_, _, _, _, h, _⟩ := S1.kept0 hg; exact h, .inr ⟨rfl, rfl, rfl, rfl⟩⟩) (fun _ => ⟨rfl, rfl⟩) hC hR hP
end Go.Proofs.YtgjpohmjkhgpfaaGreat
