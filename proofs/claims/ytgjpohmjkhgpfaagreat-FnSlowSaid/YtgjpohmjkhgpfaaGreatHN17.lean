/- DrawMask's general road through every mask: what it leaves, on images that were made. No color of the source is above its alpha. -/
import Derived.Test.YtgjpohmjkhgpfaaGreatHa
import Derived.Test.YtgjpohmjkhgpfaaGreatHSH0
import Derived.Test.YtgjpohmjkhgpfaaGreatHSH1
set_option linter.unusedSimpArgs false
set_option linter.unusedVariables false
namespace Go.Proofs.YtgjpohmjkhgpfaaGreat
open Go.RowKit

theorem mdmS_of {w : World} {B n c b kd dh dw ks B' n' c' b' sh sw km B'' n'' c'' b'' mh mw op : Nat} {dx0 dy0 dx1 dy1 sx0 sy0 sx1 sy1 mx0 my0 mx1 my1 x0 y0 x1 y1 px py qx qy : Int} {p s m : Nat → Int} {A A' A'' : Option Addr} {td ts tm : TypeId} (hkd : kd < 6)
    (Hd : IM w B dx0 dy0 dx1 dy1 n p A c b kd td) (Hs : IM w B' sx0 sy0 sx1 sy1 n' s A' c' b' ks ts) (Hm : IM w B'' mx0 my0 mx1 my1 n'' m A'' c'' b'' km tm) (GD : Geo kd dx0 dy0 dx1 dy1 n dh dw) (GS : Geo ks sx0 sy0 sx1 sy1 n' sh sw) (GM : Geo km mx0 my0 mx1 my1 n'' mh mw)
    (hp : By p) (hs : By s) (hm : By m) (hap : Apart A b' A') (haq : Apart A b'' A'')
    (m1 : sm x0) (m2 : sm y0) (m3 : sm px) (m4 : sm py) (m5 : sm (x0 - px)) (m6 : sm (y0 - py)) (m7 : sm qx) (m8 : sm qy) (m9 : sm (x0 - qx)) (m10 : sm (y0 - qy)) (m11 : sm x1) (m12 : sm y1)
    (HX : ∀ {rx ry xe ye ax ay ux uy : Nat} {b0 b1 b2 b3 p0 p1 q0 q1 : Int} (g : Nat), A = some ⟨g, 0, none⟩ → Src w b g dh dw dx0 dy0 (toP dw (sz kd) p) kd td → Src w b' (pbk ks A' b') sh sw sx0 sy0 (srcP ks sw s) ks ts → Src w b'' (pbk km A'' b'') mh mw mx0 my0 (srcP km mw m) km tm →
      b' ≠ g → pbk ks A' b' ≠ g → b'' ≠ g → pbk km A'' b'' ≠ g →
      Cl1 x0 y0 x1 y1 px py qx qy dx0 dy0 (dx0 + dw) (dy0 + dh) sx0 sy0 (sx0 + sw) (sy0 + sh) mx0 my0 (mx0 + mw) (my0 + mh) b0 b1 b2 b3 p0 p1 q0 q1 → Rct b0 b1 b2 b3 dx0 dy0 rx ry xe ye dh dw → Plc p0 p1 sx0 sy0 ax ay rx ry xe ye sh sw → Plc q0 q1 mx0 my0 ux uy rx ry xe ye mh mw →
      Calls Tryz.prog 42 #[.iface 83 (vPl td b), vR x0 y0 x1 y1, .iface ts (.pointer (some ⟨b', 0, none⟩)), vP px py, .iface tm (.pointer (some ⟨b'', 0, none⟩)), vP qx qy, .int .i64 op] w
        (Drawn w g (sz kd) dh dw rx ry xe ye (fun r c => pxM kd ks km op (toP dw (sz kd) p r c) (srcP ks sw s (ay + (r - ry)) (ax + (c - rx))) (srcP km mw m (uy + (r - ry)) (ux + (c - rx)))) (toP dw (sz kd) p))) :
    Calls Tryz.prog 42 #[.iface 83 (vPl td b), vR x0 y0 x1 y1, .iface ts (.pointer (some ⟨b', 0, none⟩)), vP px py, .iface tm (.pointer (some ⟨b'', 0, none⟩)), vP qx qy, .int .i64 op] w
      (DMout w B n c A (resB kd dw (In1 x0 y0 x1 y1 px py qx qy dx0 dy0 sx0 sy0 mx0 my0 sh sw mh mw) (fun r c => pxM kd ks km op (toP dw (sz kd) p r c) (srcAt ks sw s x0 y0 px py dx0 dy0 sx0 sy0 r c) (srcAt km mw m x0 y0 qx qy dx0 dy0 mx0 my0 r c)) p)) := by
  obtain ⟨rfl, rfl, g1, g2, g3, g4⟩ := GD.ends
  obtain ⟨rfl, rfl, k1, k2, k3, k4⟩ := GS.ends
  obtain ⟨rfl, rfl, l1, l2, l3, l4⟩ := GM.ends
  have GD' := GD
  rcases GD with ⟨h6, _⟩ | ⟨-, -, -, hn, d1, d2, v1, v2, v3, v4⟩
  · omega
  obtain ⟨b0, b1, b2, b3, p0, p1, q0, q1, hC⟩ := cl1_ex (x0 := x0) (y0 := y0) (x1 := x1) (y1 := y1) (px := px) (py := py) (qx := qx) (qy := qy) (d0 := dx0) (d1 := dy0) (d2 := dx0 + dw) (d3 := dy0 + dh) (s0 := sx0) (s1 := sy0) (s2 := sx0 + sw) (s3 := sy0 + sh) (m0 := mx0) (m1 := my0) (m2 := mx0 + mw) (m3 := my0 + mh)
    m1 m2 m3 m4 m7 m8 k1 k2 k3 k4 m5 m6 l1 l2 l3 l4 m9 m10 m11 m12
  cases hE : emp b0 b1 b2 b3
  · obtain ⟨rx, ry, xe, ye, ax, ay, ux, uy, hR, hP, hQ, hI, hat⟩ := cl1_geo hC hE
    have hR' := hR
    obtain ⟨-, -, -, -, r1, r2, r3, r4⟩ := hR'
    have hP' := hP
    obtain ⟨-, -, r5, r6⟩ := hP'
    have hQ' := hQ
    obtain ⟨-, -, r7, r8⟩ := hQ'
    have hpos : 0 < n := geo_pos GD' (by omega) (by omega)
    obtain ⟨g, rfl, hg, hgl, hgb⟩ := Hd.dst (by omega) hpos
    obtain ⟨S1, -, -⟩ := Hd.src GD' hp hpos
    obtain ⟨S2, -, -⟩ := Hs.src GS hs (geo_pos GS (by omega) (by omega))
    obtain ⟨S3, -, -⟩ := Hm.src GM hm (geo_pos GM (by omega) (by omega))
    have e1 : pbk kd (some ⟨g, 0, none⟩) b = g := by unfold pbk; rw [if_neg (by omega)]; rfl
    have e2 : srcP kd dw p = toP dw (sz kd) p := by unfold srcP; rw [if_neg (by omega)]
    rw [e1, e2] at S1
    obtain ⟨t1, t2⟩ := apart_of (hap _ rfl) Hs GS (by omega) (by omega)
    obtain ⟨t3, t4⟩ := apart_of (haq _ rfl) Hm GM (by omega) (by omega)
    refine (HX g rfl S1 S2 S3 t1 t2 t3 t4 hC hR hP hQ).mono ?_
    rintro e w' ⟨rfl, h1, h2⟩
    have hle := (Hd.own (by omega)).le
    refine ⟨rfl, h1, (own_pix h2 hg hn hle.1 hle.2).congr ?_⟩
    refine res_in hn hI ?_
    intro r c hr hc hi
    obtain ⟨t1, t2, t3, t4⟩ := hat r c hi
    unfold srcAt
    rw [← t1, ← t2, ← t3, ← t4, Int.toNat_natCast, Int.toNat_natCast, Int.toNat_natCast, Int.toNat_natCast]
  · refine (dm_emp1 w (plain_bd Hd.bd) Hs.bd Hm.bd hC hE).mono ?_
    rintro e w' ⟨rfl, hg⟩
    refine ⟨rfl, gb_weak hg _, ((Hd.own (by omega)).kept0 hg).congr ?_⟩
    exact res_none hn (cl1_emp hC hE)
theorem mdmS_all {w : World} {B n c b kd dh dw ks B' n' c' b' sh sw km B'' n'' c'' b'' mh mw op : Nat} {dx0 dy0 dx1 dy1 sx0 sy0 sx1 sy1 mx0 my0 mx1 my1 x0 y0 x1 y1 px py qx qy : Int} {p s m : Nat → Int} {A A' A'' : Option Addr} {td ts tm : TypeId} (hop : op ≤ 1) (hkd : kd = 0 ∨ kd = 2 ∨ kd = 4)
    (Hd : IM w B dx0 dy0 dx1 dy1 n p A c b kd td) (Hs : IM w B' sx0 sy0 sx1 sy1 n' s A' c' b' ks ts) (Hm : IM w B'' mx0 my0 mx1 my1 n'' m A'' c'' b'' km tm) (GD : Geo kd dx0 dy0 dx1 dy1 n dh dw) (GS : Geo ks sx0 sy0 sx1 sy1 n' sh sw) (GM : Geo km mx0 my0 mx1 my1 n'' mh mw)
    (hp : By p) (hs : By s) (hm : By m) (hpm : Pmk ks s) (hap : Apart A b' A') (haq : Apart A b'' A'')
    (m1 : sm x0) (m2 : sm y0) (m3 : sm px) (m4 : sm py) (m5 : sm (x0 - px)) (m6 : sm (y0 - py)) (m7 : sm qx) (m8 : sm qy) (m9 : sm (x0 - qx)) (m10 : sm (y0 - qy)) (m11 : sm x1) (m12 : sm y1) :
    Calls Tryz.prog 42 #[.iface 83 (vPl td b), vR x0 y0 x1 y1, .iface ts (.pointer (some ⟨b', 0, none⟩)), vP px py, .iface tm (.pointer (some ⟨b'', 0, none⟩)), vP qx qy, .int .i64 op] w
      (DMout w B n c A (resB kd dw (In1 x0 y0 x1 y1 px py qx qy dx0 dy0 sx0 sy0 mx0 my0 sh sw mh mw) (fun r c => pxM kd ks km op (toP dw (sz kd) p r c) (srcAt ks sw s x0 y0 px py dx0 dy0 sx0 sy0 r c) (srcAt km mw m x0 y0 qx qy dx0 dy0 mx0 my0 r c)) p)) := by
  have hpm2 := fun r c => pm_src (wd := sw) hpm r c
  have hop' : op = 0 ∨ op = 1 := by omega
  refine mdmS_of (by omega) Hd Hs Hm GD GS GM hp hs hm hap haq m1 m2 m3 m4 m5 m6 m7 m8 m9 m10 m11 m12 ?_
  intro rx ry xe ye ax ay ux uy b0 b1 b2 b3 p0 p1 q0 q1 g hA S1 S2 S3 t1 t2 t3 t4 hC hR hP hQ
  have n3 := src_apart S1 S2 (by omega) t2
  have hsx := src_sm S2
  have hmx := src_sm S3
  obtain ⟨n4, hb⟩ := src_lim S1 (by omega)
  rcases hop' with rfl | rfl
  · exact dmS_m0 w S1 hkd S2 S3 hpm2 n3 t1 t2 n4 t3 t4 hC hR hP hQ hb hsx hmx
  · exact dmS_m1 w S1 hkd S2 S3 hpm2 n3 t1 t2 n4 t3 t4 hC hR hP hQ hb hsx hmx
end Go.Proofs.YtgjpohmjkhgpfaaGreat
