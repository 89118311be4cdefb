/- DrawMask without a mask, at images that were made of data: what becomes of the destination's bytes. -/
import Derived.Test.YtgjpohmjkhgpfaaGreatN2
import Derived.Test.YtgjpohmjkhgpfaaGreatG
import Derived.Test.YtgjpohmjkhgpfaaGreatX5
set_option linter.unusedSimpArgs false
set_option linter.unusedVariables false
namespace Go.Proofs.YtgjpohmjkhgpfaaGreat
open Go.RowKit

theorem Own.congr {w : World} {B n c : Nat} {p q : Nat → Int} {A : Option Addr} (h : Own w B n p A c) (e : ∀ i, i < n → p i = q i) : Own w B n q A c := by
  rcases h with h | ⟨g, C, e', hB, hb, h1, h2, hC⟩
  · exact .inl h
  · exact .inr ⟨g, C, e', hB, hb, h1, h2, fun i hi => by rw [hC i hi, e i hi]⟩
/-- what drawing leaves -/
def DMout (w : World) (B n c : Nat) (A : Option Addr) (q : Nat → Int) (e : Ending) (w' : World) : Prop :=
  e = .returned (.tuple #[]) ∧ w.grownBy w' (A.map (·.block)) ∧ Own w' B n q A c
theorem res_in {dk wd h n : Nat} {I J : Nat → Nat → Prop} {F G : Nat → Nat → Nat → Int} {p : Nat → Int} (hn : n = h * (wd * sz dk)) (hI : ∀ r c, r < h → c < wd → (I r c ↔ J r c)) (hF : ∀ r c, r < h → c < wd → I r c → F r c = G r c) :
    ∀ i, i < n → resB dk wd I F p i = resB dk wd J G p i := by
  intro i hi
  obtain ⟨l1, l2, l3⟩ := un_lt (h := h) (wd := wd) (k := sz dk) (i := i) (by omega)
  unfold resB unP
  by_cases hj : I (i / (wd * sz dk)) (i % (wd * sz dk) / sz dk)
  · rw [pt_pos hj, pt_pos ((hI _ _ l1 l2).1 hj), hF _ _ l1 l2 hj]
  · rw [pt_neg hj, pt_neg (fun h => hj ((hI _ _ l1 l2).2 h))]
theorem res_none {dk wd h n : Nat} {I : Nat → Nat → Prop} {F : Nat → Nat → Nat → Int} {p : Nat → Int} (hn : n = h * (wd * sz dk)) (hI : ∀ r c, r < h → c < wd → ¬ I r c) : ∀ i, i < n → p i = resB dk wd I F p i := by
  intro i hi
  obtain ⟨l1, l2, l3⟩ := un_lt (h := h) (wd := wd) (k := sz dk) (i := i) (by omega)
  unfold resB
  rw [← un_to wd (sz dk) p i]
  unfold unP
  rw [pt_neg (hI _ _ l1 l2)]
/-- the source's pixel that is drawn onto the pixel (r, c) -/
def srcAt (ks sw : Nat) (s : Nat → Int) (x0 y0 px py dx0 dy0 sx0 sy0 : Int) (r c : Nat) : Nat → Int :=
  srcP ks sw s (dy0 + r + (py - y0) - sy0).toNat (dx0 + c + (px - x0) - sx0).toNat
theorem sz_pos (k : Nat) : 0 < sz k := by unfold sz; split <;> omega

theorem mdm0_of {w : World} {B n c b kd dh dw ks B' n' c' b' sh sw op : Nat} {dx0 dy0 dx1 dy1 sx0 sy0 sx1 sy1 x0 y0 x1 y1 px py : Int} {p s : Nat → Int} {A A' : Option Addr} {td ts : TypeId} (hkd : kd < 6)
    (Hd : IM w B dx0 dy0 dx1 dy1 n p A c b kd td) (Hs : IM w B' sx0 sy0 sx1 sy1 n' s A' c' b' ks ts) (GD : Geo kd dx0 dy0 dx1 dy1 n dh dw) (GS : Geo ks sx0 sy0 sx1 sy1 n' sh sw) (hp : By p) (hs : By s)
    (m1 : sm x0) (m2 : sm y0) (m3 : sm px) (m4 : sm py) (m5 : sm (x0 - px)) (m6 : sm (y0 - py))
    (HX : ∀ {rx ry xe ye ax ay : Nat} {b0 b1 b2 b3 p0 p1 q0 q1 : Int} (g : Nat), A = some ⟨g, 0, none⟩ → Src w b g dh dw dx0 dy0 (toP dw (sz kd) p) kd td → Src w b' (pbk ks A' b') sh sw sx0 sy0 (srcP ks sw s) ks ts →
      Cl0 x0 y0 x1 y1 px py 0 0 dx0 dy0 (dx0 + dw) (dy0 + dh) sx0 sy0 (sx0 + sw) (sy0 + sh) b0 b1 b2 b3 p0 p1 q0 q1 → Rct b0 b1 b2 b3 dx0 dy0 rx ry xe ye dh dw → Plc p0 p1 sx0 sy0 ax ay rx ry xe ye sh sw →
      Calls Tryz.prog 42 #[.iface td (.pointer (some ⟨b, 0, none⟩)), vR x0 y0 x1 y1, .iface ts (.pointer (some ⟨b', 0, none⟩)), vP px py, .nilIface, vP 0 0, .int .i64 op] w
        (Drawn w g (sz kd) dh dw rx ry xe ye (fun r c => px0 kd ks op (toP dw (sz kd) p r c) (srcP ks sw s (ay + (r - ry)) (ax + (c - rx)))) (toP dw (sz kd) p))) :
    Calls Tryz.prog 42 #[.iface td (.pointer (some ⟨b, 0, none⟩)), vR x0 y0 x1 y1, .iface ts (.pointer (some ⟨b', 0, none⟩)), vP px py, .nilIface, vP 0 0, .int .i64 op] w
      (DMout w B n c A (resB kd dw (In0 x0 y0 x1 y1 px py dx0 dy0 sx0 sy0 sh sw) (fun r c => px0 kd ks op (toP dw (sz kd) p r c) (srcAt ks sw s x0 y0 px py dx0 dy0 sx0 sy0 r c)) p)) := by
  obtain ⟨rfl, rfl, g1, g2, g3, g4⟩ := GD.ends
  obtain ⟨rfl, rfl, k1, k2, k3, k4⟩ := GS.ends
  rcases GD with ⟨h6, _⟩ | ⟨-, -, -, hn, l1, l2, v1, v2, v3, v4⟩
  · omega
  have m0 : sm 0 := by unfold sm; omega
  obtain ⟨b0, b1, b2, b3, p0, p1, q0, q1, hC⟩ := cl0_ex (x0 := x0) (y0 := y0) (x1 := x1) (y1 := y1) (px := px) (py := py) (qx := 0) (qy := 0) (d0 := dx0) (d1 := dy0) (d2 := dx0 + dw) (d3 := dy0 + dh) (s0 := sx0) (s1 := sy0) (s2 := sx0 + sw) (s3 := sy0 + sh)
    m1 m2 m3 m4 m0 m0 k1 k2 k3 k4 m5 m6 (by omega) (by omega) (by omega) (by omega)
  cases hE : emp b0 b1 b2 b3
  · obtain ⟨rx, ry, xe, ye, ax, ay, hR, hP, hI, hat⟩ := cl0_geo hC hE
    have hR' := hR
    obtain ⟨-, -, -, -, r1, r2, r3, r4⟩ := hR'
    have hP' := hP
    obtain ⟨-, -, r5, r6⟩ := hP'
    have hpos : 0 < n := by
      rw [hn]; exact Nat.mul_pos (by omega) (Nat.mul_pos (by omega) (sz_pos kd))
    have hpos' : 0 < n' := by
      rcases GS with ⟨_, rfl, _⟩ | ⟨-, -, -, hn', _⟩
      · omega
      · rw [hn']; exact Nat.mul_pos (by omega) (Nat.mul_pos (by omega) (sz_pos ks))
    obtain ⟨g, rfl, hg, hgl, hgb⟩ := Hd.dst (by omega) hpos
    obtain ⟨S1, -, -⟩ := Hd.src (h := dh) (wd := dw) (.inr ⟨hkd, rfl, rfl, hn, l1, l2, v1, v2, v3, v4⟩) hp hpos
    obtain ⟨S2, -, -⟩ := Hs.src GS hs hpos'
    have e1 : pbk kd (some ⟨g, 0, none⟩) b = g := by unfold pbk; rw [if_neg (by omega)]; rfl
    have e2 : srcP kd dw p = toP dw (sz kd) p := by unfold srcP; rw [if_neg (by omega)]
    rw [e1, e2] at S1
    refine (HX g rfl S1 S2 hC hR hP).mono ?_
    rintro e w' ⟨rfl, h1, h2⟩
    have hle := (Hd.own (by omega)).le
    refine ⟨rfl, h1, (own_pix h2 hg hn hle.1 hle.2).congr ?_⟩
    refine res_in hn hI ?_
    intro r c hr hc hi
    obtain ⟨t1, t2⟩ := hat r c hi
    unfold srcAt
    rw [← t1, ← t2, Int.toNat_natCast, Int.toNat_natCast]
  · refine (dm_emp0 w Hd.bd Hs.bd hC hE).mono ?_
    rintro e w' ⟨rfl, hg⟩
    refine ⟨rfl, gb_weak hg _, ((Hd.own (by omega)).kept0 hg).congr ?_⟩
    exact res_none hn (cl0_emp hC hE)
end Go.Proofs.YtgjpohmjkhgpfaaGreat
