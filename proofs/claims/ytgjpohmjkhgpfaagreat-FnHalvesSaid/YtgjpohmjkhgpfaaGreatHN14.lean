/- image/draw: DrawMask through every mask: what it leaves, on images that were made. No color of the source is above its alpha. -/
import Derived.Test.YtgjpohmjkhgpfaaGreatHN13
import Derived.Test.YtgjpohmjkhgpfaaGreatHX9
set_option linter.unusedSimpArgs false
set_option linter.unusedVariables false
namespace Go.Proofs.YtgjpohmjkhgpfaaGreat
open Go.RowKit

theorem mdm1_all {w : World} {B n c b kd dh dw ks B' n' c' b' sh sw km B'' n'' c'' b'' mh mw op : Nat} {dx0 dy0 dx1 dy1 sx0 sy0 sx1 sy1 mx0 my0 mx1 my1 x0 y0 x1 y1 px py qx qy : Int} {p s m : Nat → Int} {A A' A'' : Option Addr} {td ts tm : TypeId} (hop : op ≤ 1) (hkd : kd = 0 ∨ kd = 2 ∨ kd = 4)
    (Hd : IM w B dx0 dy0 dx1 dy1 n p A c b kd td) (Hs : IM w B' sx0 sy0 sx1 sy1 n' s A' c' b' ks ts) (Hm : IM w B'' mx0 my0 mx1 my1 n'' m A'' c'' b'' km tm) (GD : Geo kd dx0 dy0 dx1 dy1 n dh dw) (GS : Geo ks sx0 sy0 sx1 sy1 n' sh sw) (GM : Geo km mx0 my0 mx1 my1 n'' mh mw)
    (hp : By p) (hs : By s) (hm : By m) (hpm : Pmk ks s) (hap : Apart A b' A') (haq : Apart A b'' A'')
    (m1 : sm x0) (m2 : sm y0) (m3 : sm px) (m4 : sm py) (m5 : sm (x0 - px)) (m6 : sm (y0 - py)) (m7 : sm qx) (m8 : sm qy) (m9 : sm (x0 - qx)) (m10 : sm (y0 - qy)) (m11 : sm x1) (m12 : sm y1) :
    Calls Tryz.prog 42 #[.iface td (.pointer (some ⟨b, 0, none⟩)), vR x0 y0 x1 y1, .iface ts (.pointer (some ⟨b', 0, none⟩)), vP px py, .iface tm (.pointer (some ⟨b'', 0, none⟩)), vP qx qy, .int .i64 op] w
      (DMout w B n c A (resB kd dw (In1 x0 y0 x1 y1 px py qx qy dx0 dy0 sx0 sy0 mx0 my0 sh sw mh mw) (fun r c => pxM kd ks km op (toP dw (sz kd) p r c) (srcAt ks sw s x0 y0 px py dx0 dy0 sx0 sy0 r c) (srcAt km mw m x0 y0 qx qy dx0 dy0 mx0 my0 r c)) p)) := by
  have hpm2 := fun r c => pm_src (wd := sw) hpm r c
  have hop' : op = 0 ∨ op = 1 := by omega
  refine mdm1_of (by omega) Hd Hs Hm GD GS GM hp hs hm hap haq m1 m2 m3 m4 m5 m6 m7 m8 m9 m10 m11 m12 ?_
  intro rx ry xe ye ax ay ux uy b0 b1 b2 b3 p0 p1 q0 q1 g hA S1 S2 S3 t1 t2 t3 t4 hC hR hP hQ
  have n3 := src_apart S1 S2 (by omega) t2
  have hsx := src_sm S2
  have hmx := src_sm S3
  by_cases hkd' : kd = 2 ∨ kd = 4
  · obtain ⟨n4, hb⟩ := src_lim S1 (by omega)
    rcases hop' with rfl | rfl
    · exact dm17_m0 w S1 hkd' S2 S3 hpm2 n3 t1 t2 n4 t3 t4 hC hR hP hQ hb hsx hmx
    · exact dm17_m1 w S1 hkd' S2 S3 hpm2 n3 t1 t2 n4 t3 t4 hC hR hP hQ hb hsx hmx
  · obtain rfl : kd = 0 := by omega
    cases S1
    case k0 S1 =>
    rcases hop' with rfl | rfl
    · by_cases hkm : km = 2
      · subst hkm
        have hk6 : ks ≤ 6 := by cases S2 <;> omega
        cases S3
        case k2 S3 =>
        by_cases h0 : ks = 0
        · subst h0
          cases S2
          case k0 S2 => exact dm_0_a0 w S1 S2 S3 hpm2 n3 t1 t2 t3 t4 hC hR hP hQ hsx
        · by_cases h3 : ks = 3
          · subst h3
            cases S2
            case k3 S2 => exact dm_0_a3 w S1 S2 S3 hpm2 n3 t1 t2 t3 t4 hC hR hP hQ hsx
          · by_cases h6 : ks = 6
            · subst h6
              exact dm_0_a6 w S1 S2 S3 hpm2 n3 t1 t2 t3 t4 hC hR hP hQ hsx
            · exact dm_0_ai w S1 S2 S3 (by omega) hpm2 n3 t1 t2 t3 t4 hC hR hP hQ hsx
      · exact dm_0_m0 w S1 S2 S3 hkm hpm2 n3 t1 t2 t3 t4 hC hR hP hQ hsx hmx
    · exact dm_0_m1 w S1 S2 S3 hpm2 n3 t1 t2 t3 t4 hC hR hP hQ hsx hmx
end Go.Proofs.YtgjpohmjkhgpfaaGreat
