/- image/draw: DrawMask onto RGBA through an Alpha mask by Over: each pixel of the rectangle is composed, all others stay. -/
import Derived.Test.YtgjpohmjkhgpfaaGreatHa
import Derived.Test.YtgjpohmjkhgpfaaGreatHW10c
import Derived.Test.YtgjpohmjkhgpfaaGreatHW10g
import Derived.Test.YtgjpohmjkhgpfaaGreatHW10i
set_option linter.unusedSimpArgs false
set_option linter.unusedVariables false
namespace Go.Proofs.YtgjpohmjkhgpfaaGreat
open Go.RowKit

theorem Src.tag {w : World} {b pb h wd k : Nat} {x0 y0 : Int} {S : Nat → Nat → Nat → Int} {t : TypeId} (H : Src w b pb h wd x0 y0 S k t) (hk : k = 1 ∨ k = 2 ∨ k = 4 ∨ k = 5) (w' : World) :
    (Instr.typeAssert (.iface t (.pointer (some ⟨b, 0, none⟩))) 72 100 true).run Tryz.prog w' = .ok (.tuple #[.pointer none, .bool false]) w' ∧
    (Instr.typeAssert (.iface t (.pointer (some ⟨b, 0, none⟩))) 72 85 true).run Tryz.prog w' = .ok (.tuple #[.pointer none, .bool false]) w' ∧
    (Instr.typeAssert (.iface t (.pointer (some ⟨b, 0, none⟩))) 72 92 true).run Tryz.prog w' = .ok (.tuple #[.pointer none, .bool false]) w' := by
  cases H <;> (first | omega | exact ⟨by go_simp, by go_simp, by go_simp⟩)

set_option maxRecDepth 100000 in
set_option maxHeartbeats 8000000 in
theorem dm_0_a0 {bd pd dh dw bs ps sh sw bm pm mh mw rx ry xe ye sx sy mx my : Nat} {dx0 dy0 sx0 sy0 mx0 my0 x0 y0 x1 y1 px py qx qy b0 b1 b2 b3 p0 p1 q0 q1 : Int} {D S M : Nat → Nat → Nat → Int} (w : World)
    (hD : Pic w bd 87 pd 4 dh dw dx0 dy0 D) (hS : Pic w bs 87 ps 4 sh sw sx0 sy0 S) (hM : Pic w bm 91 pm 1 mh mw mx0 my0 M) (hpm : ∀ r c, Pm 0 (S r c)) (n0 : bd ≠ bs) (n1 : bs ≠ pd) (n2 : ps ≠ pd) (n4 : bm ≠ pd) (n5 : pm ≠ pd)
    (hC : Cl1 x0 y0 x1 y1 px py qx qy dx0 dy0 (dx0 + dw) (dy0 + dh) sx0 sy0 (sx0 + sw) (sy0 + sh) mx0 my0 (mx0 + mw) (my0 + mh) b0 b1 b2 b3 p0 p1 q0 q1)
    (hR : Rct b0 b1 b2 b3 dx0 dy0 rx ry xe ye dh dw) (hP : Plc p0 p1 sx0 sy0 sx sy rx ry xe ye sh sw) (hQ : Plc q0 q1 mx0 my0 mx my rx ry xe ye mh mw) (hsx : sm sx0 ∧ sm sy0 ∧ sm sw ∧ sm sh) :
    Calls Tryz.prog 42 #[.iface 85 (.pointer (some ⟨bd, 0, none⟩)), vR x0 y0 x1 y1, .iface 85 (.pointer (some ⟨bs, 0, none⟩)), vP px py, .iface 90 (.pointer (some ⟨bm, 0, none⟩)), vP qx qy, .int .i64 0] w
      (Drawn w pd 4 dh dw rx ry xe ye (fun r c => pxM 0 0 2 0 (D r c) (S (sy + (r - ry)) (sx + (c - rx))) (M (my + (r - ry)) (mx + (c - rx)))) D) := by
  have HC := hid hC
  have Hem := hid (rct_ne hR)
  have HR := hid hR
  have HP := hid hP
  have HD := hid hD
  have HS := hid hS
  have Hpm := hid hpm
  have HX := hid hsx
  have Hn := hid (And.intro n0 (And.intro n1 n2))
  have HQ := hid hQ
  have HM := hid hM
  have Hn2 := hid (And.intro n4 n5)
  clear hC hR hP hD hS hpm hsx n0 n1 n2 hQ hM n4 n5
  go_enter Tryz.func42, Tryz.ntmps42
  go_wp2_with fail
  refine (clip1_k HC.out (w0 := w) (gb_alloc (gb_alloc (gb_alloc (gb_refl _ _) _) _) _) (Nat.le_refl _) (by omega) (by omega) (by omega) (by omega) (by omega) (Src.k0 HD.out).bd (Src.k0 HS.out).bd (Src.k2 HM.out).bd (cp_start _ _ _ _ _ _ _ _ _)).mono ?_
  rintro e w1 ⟨rfl, hg, ⟨c0, c1, c2, c3, k0, k1, l0, l1, fr, fp, fq⟩⟩
  have z1 : w.heap.size < w1.heap.size := World.block_lt_of_cell? w1 _ c0
  have z2 : w.heap.size + 1 < w1.heap.size := World.block_lt_of_cell? w1 _ k0
  have z3 : w.heap.size + 2 < w1.heap.size := World.block_lt_of_cell? w1 _ l0
  clear fr fp fq
  have Hg := hid hg
  clear hg
  go_wp2_with fail
  refine (empty_c b0 b1 b2 b3 _).mono ?_
  rintro e w2 ⟨rfl, rfl⟩
  rw [Hem.out]
  go_wp2_with fail
  have HG := hid (gb_alloc Hg.out (.cells #[.int .i64 b0, .int .i64 b1, .int .i64 b2, .int .i64 b3] 78))
  refine Calls.mono (drawRGBAMaskOver_a _ (HD.out.kept0 HG.out) (HS.out.kept0 HG.out) (HM.out.kept0 HG.out) Hn.out.2.1 Hn.out.2.2 Hn2.out.1 Hn2.out.2 Hn.out.1 Hpm.out HR.out HP.out HQ.out) ?_
  rintro e w3 h3
  have h4 := drawn_of HG.out h3
  obtain ⟨rfl, h5⟩ := h4
  have H5 := hid h5
  clear h3 h5
  go_wp2
  exact bodyPost_ret (v := .tuple #[]) (by simp [results, Tryz.results42]) rfl ⟨rfl, H5.out⟩

set_option maxRecDepth 100000 in
set_option maxHeartbeats 8000000 in
theorem dm_0_a3 {bd pd dh dw bs ps sh sw bm pm mh mw rx ry xe ye sx sy mx my : Nat} {dx0 dy0 sx0 sy0 mx0 my0 x0 y0 x1 y1 px py qx qy b0 b1 b2 b3 p0 p1 q0 q1 : Int} {D S M : Nat → Nat → Nat → Int} (w : World)
    (hD : Pic w bd 87 pd 4 dh dw dx0 dy0 D) (hS : Pic w bs 93 ps 1 sh sw sx0 sy0 S) (hM : Pic w bm 91 pm 1 mh mw mx0 my0 M) (hpm : ∀ r c, Pm 3 (S r c)) (n0 : bd ≠ bs) (n1 : bs ≠ pd) (n2 : ps ≠ pd) (n4 : bm ≠ pd) (n5 : pm ≠ pd)
    (hC : Cl1 x0 y0 x1 y1 px py qx qy dx0 dy0 (dx0 + dw) (dy0 + dh) sx0 sy0 (sx0 + sw) (sy0 + sh) mx0 my0 (mx0 + mw) (my0 + mh) b0 b1 b2 b3 p0 p1 q0 q1)
    (hR : Rct b0 b1 b2 b3 dx0 dy0 rx ry xe ye dh dw) (hP : Plc p0 p1 sx0 sy0 sx sy rx ry xe ye sh sw) (hQ : Plc q0 q1 mx0 my0 mx my rx ry xe ye mh mw) (hsx : sm sx0 ∧ sm sy0 ∧ sm sw ∧ sm sh) :
    Calls Tryz.prog 42 #[.iface 85 (.pointer (some ⟨bd, 0, none⟩)), vR x0 y0 x1 y1, .iface 92 (.pointer (some ⟨bs, 0, none⟩)), vP px py, .iface 90 (.pointer (some ⟨bm, 0, none⟩)), vP qx qy, .int .i64 0] w
      (Drawn w pd 4 dh dw rx ry xe ye (fun r c => pxM 0 3 2 0 (D r c) (S (sy + (r - ry)) (sx + (c - rx))) (M (my + (r - ry)) (mx + (c - rx)))) D) := by
  have HC := hid hC
  have Hem := hid (rct_ne hR)
  have HR := hid hR
  have HP := hid hP
  have HD := hid hD
  have HS := hid hS
  have Hpm := hid hpm
  have HX := hid hsx
  have Hn := hid (And.intro n0 (And.intro n1 n2))
  have HQ := hid hQ
  have HM := hid hM
  have Hn2 := hid (And.intro n4 n5)
  clear hC hR hP hD hS hpm hsx n0 n1 n2 hQ hM n4 n5
  go_enter Tryz.func42, Tryz.ntmps42
  go_wp2_with fail
  refine (clip1_k HC.out (w0 := w) (gb_alloc (gb_alloc (gb_alloc (gb_refl _ _) _) _) _) (Nat.le_refl _) (by omega) (by omega) (by omega) (by omega) (by omega) (Src.k0 HD.out).bd (Src.k3 HS.out).bd (Src.k2 HM.out).bd (cp_start _ _ _ _ _ _ _ _ _)).mono ?_
  rintro e w1 ⟨rfl, hg, ⟨c0, c1, c2, c3, k0, k1, l0, l1, fr, fp, fq⟩⟩
  have z1 : w.heap.size < w1.heap.size := World.block_lt_of_cell? w1 _ c0
  have z2 : w.heap.size + 1 < w1.heap.size := World.block_lt_of_cell? w1 _ k0
  have z3 : w.heap.size + 2 < w1.heap.size := World.block_lt_of_cell? w1 _ l0
  clear fr fp fq
  have Hg := hid hg
  clear hg
  go_wp2_with fail
  refine (empty_c b0 b1 b2 b3 _).mono ?_
  rintro e w2 ⟨rfl, rfl⟩
  rw [Hem.out]
  go_wp2_with fail
  have HG := hid (gb_alloc Hg.out (.cells #[.int .i64 b0, .int .i64 b1, .int .i64 b2, .int .i64 b3] 78))
  refine Calls.mono (drawGrayMaskOver_c _ (HD.out.kept0 HG.out) (HS.out.kept0 HG.out) (HM.out.kept0 HG.out) Hn.out.2.1 Hn.out.2.2 Hn2.out.1 Hn2.out.2 trivial HR.out HP.out HQ.out) ?_
  rintro e w3 h3
  have h4 := drawn_of HG.out h3
  obtain ⟨rfl, h5⟩ := h4
  have H5 := hid h5
  clear h3 h5
  go_wp2
  exact bodyPost_ret (v := .tuple #[]) (by simp [results, Tryz.results42]) rfl ⟨rfl, H5.out⟩

set_option maxRecDepth 100000 in
set_option maxHeartbeats 8000000 in
theorem dm_0_ai {bd pd dh dw bs ps sh sw ks bm pm mh mw rx ry xe ye sx sy mx my : Nat} {dx0 dy0 sx0 sy0 mx0 my0 x0 y0 x1 y1 px py qx qy b0 b1 b2 b3 p0 p1 q0 q1 : Int} {D S M : Nat → Nat → Nat → Int} {ts : TypeId} (w : World)
    (hD : Pic w bd 87 pd 4 dh dw dx0 dy0 D) (hS : Src w bs ps sh sw sx0 sy0 S ks ts) (hM : Pic w bm 91 pm 1 mh mw mx0 my0 M) (hks : ks = 1 ∨ ks = 2 ∨ ks = 4 ∨ ks = 5) (hpm : ∀ r c, Pm ks (S r c)) (n0 : bd ≠ bs) (n1 : bs ≠ pd) (n2 : ps ≠ pd) (n4 : bm ≠ pd) (n5 : pm ≠ pd)
    (hC : Cl1 x0 y0 x1 y1 px py qx qy dx0 dy0 (dx0 + dw) (dy0 + dh) sx0 sy0 (sx0 + sw) (sy0 + sh) mx0 my0 (mx0 + mw) (my0 + mh) b0 b1 b2 b3 p0 p1 q0 q1)
    (hR : Rct b0 b1 b2 b3 dx0 dy0 rx ry xe ye dh dw) (hP : Plc p0 p1 sx0 sy0 sx sy rx ry xe ye sh sw) (hQ : Plc q0 q1 mx0 my0 mx my rx ry xe ye mh mw) (hsx : sm sx0 ∧ sm sy0 ∧ sm sw ∧ sm sh) :
    Calls Tryz.prog 42 #[.iface 85 (.pointer (some ⟨bd, 0, none⟩)), vR x0 y0 x1 y1, .iface ts (.pointer (some ⟨bs, 0, none⟩)), vP px py, .iface 90 (.pointer (some ⟨bm, 0, none⟩)), vP qx qy, .int .i64 0] w
      (Drawn w pd 4 dh dw rx ry xe ye (fun r c => pxM 0 ks 2 0 (D r c) (S (sy + (r - ry)) (sx + (c - rx))) (M (my + (r - ry)) (mx + (c - rx)))) D) := by
  have HC := hid hC
  have Hem := hid (rct_ne hR)
  have HR := hid hR
  have HP := hid hP
  have HD := hid hD
  have HS := hid hS
  have Hpm := hid hpm
  have HX := hid hsx
  have Hn := hid (And.intro n0 (And.intro n1 n2))
  have HQ := hid hQ
  have HM := hid hM
  have Hn2 := hid (And.intro n4 n5)
  have TA := fun w' => hS.tag hks w'
  have TA1 := fun w' => (TA w').1
  have TA2 := fun w' => (TA w').2.1
  have TA3 := fun w' => (TA w').2.2
  have TA6 := fun w' => hS.ta64 w'
  clear TA
  clear hC hR hP hD hS hpm hsx n0 n1 n2 hQ hM n4 n5 hks
  go_enter Tryz.func42, Tryz.ntmps42
  go_wp2_with fail
  refine (clip1_k HC.out (w0 := w) (gb_alloc (gb_alloc (gb_alloc (gb_refl _ _) _) _) _) (Nat.le_refl _) (by omega) (by omega) (by omega) (by omega) (by omega) (Src.k0 HD.out).bd HS.out.bd (Src.k2 HM.out).bd (cp_start _ _ _ _ _ _ _ _ _)).mono ?_
  rintro e w1 ⟨rfl, hg, ⟨c0, c1, c2, c3, k0, k1, l0, l1, fr, fp, fq⟩⟩
  have z1 : w.heap.size < w1.heap.size := World.block_lt_of_cell? w1 _ c0
  have z2 : w.heap.size + 1 < w1.heap.size := World.block_lt_of_cell? w1 _ k0
  have z3 : w.heap.size + 2 < w1.heap.size := World.block_lt_of_cell? w1 _ l0
  clear fr fp fq
  have Hg := hid hg
  clear hg
  go_wp2_with fail
  refine (empty_c b0 b1 b2 b3 _).mono ?_
  rintro e w2 ⟨rfl, rfl⟩
  rw [Hem.out]
  go_wp2_with fail
  have HG := hid (gb_alloc Hg.out (.cells #[.int .i64 b0, .int .i64 b1, .int .i64 b2, .int .i64 b3] 78))
  refine Calls.mono (drawRGBA64ImageMaskOver_c _ (HD.out.kept0 HG.out) (HS.out.kept0 HG.out) (HM.out.kept0 HG.out) Hn.out.1 Hn.out.2.1 Hn.out.2.2 Hn2.out.1 Hn2.out.2 Hpm.out HR.out HP.out HQ.out HX.out) ?_
  rintro e w3 h3
  have h4 := drawn_of HG.out h3
  obtain ⟨rfl, h5⟩ := h4
  have H5 := hid h5
  clear h3 h5
  go_wp2
  exact bodyPost_ret (v := .tuple #[]) (by simp [results, Tryz.results42]) rfl ⟨rfl, H5.out⟩

set_option maxRecDepth 100000 in
set_option maxHeartbeats 8000000 in
theorem dm_0_a6 {bd pd dh dw bs ps sh sw bm pm mh mw rx ry xe ye sx sy mx my : Nat} {dx0 dy0 sx0 sy0 mx0 my0 x0 y0 x1 y1 px py qx qy b0 b1 b2 b3 p0 p1 q0 q1 : Int} {D S M : Nat → Nat → Nat → Int} {ts : TypeId} (w : World)
    (hD : Pic w bd 87 pd 4 dh dw dx0 dy0 D) (hS : Src w bs ps sh sw sx0 sy0 S 6 ts) (hM : Pic w bm 91 pm 1 mh mw mx0 my0 M) (hpm : ∀ r c, Pm 6 (S r c)) (n0 : bd ≠ bs) (n1 : bs ≠ pd) (n2 : ps ≠ pd) (n4 : bm ≠ pd) (n5 : pm ≠ pd)
    (hC : Cl1 x0 y0 x1 y1 px py qx qy dx0 dy0 (dx0 + dw) (dy0 + dh) sx0 sy0 (sx0 + sw) (sy0 + sh) mx0 my0 (mx0 + mw) (my0 + mh) b0 b1 b2 b3 p0 p1 q0 q1)
    (hR : Rct b0 b1 b2 b3 dx0 dy0 rx ry xe ye dh dw) (hP : Plc p0 p1 sx0 sy0 sx sy rx ry xe ye sh sw) (hQ : Plc q0 q1 mx0 my0 mx my rx ry xe ye mh mw) (hsx : sm sx0 ∧ sm sy0 ∧ sm sw ∧ sm sh) :
    Calls Tryz.prog 42 #[.iface 85 (.pointer (some ⟨bd, 0, none⟩)), vR x0 y0 x1 y1, .iface ts (.pointer (some ⟨bs, 0, none⟩)), vP px py, .iface 90 (.pointer (some ⟨bm, 0, none⟩)), vP qx qy, .int .i64 0] w
      (Drawn w pd 4 dh dw rx ry xe ye (fun r c => pxM 0 6 2 0 (D r c) (S (sy + (r - ry)) (sx + (c - rx))) (M (my + (r - ry)) (mx + (c - rx)))) D) := by
  have HSs := hid hS
  cases hS
  case k6 s hby hSe hc hl e1' e2' e3' e4' e5' =>
  subst hSe
  obtain ⟨c, hcl⟩ : ∃ c : Nat → Int, cl 6 s = c := ⟨_, rfl⟩
  rw [hcl] at hc
  have Hby := hid hby
  have Hcl := hid hcl
  have Hpm6 := hid (hpm 0 0)
  have Hcc := hid hc
  have Hll := hid hl
  clear hby hcl hc hl e1' e2' e3' e4' e5'
  have HC := hid hC
  have Hem := hid (rct_ne hR)
  have HR := hid hR
  have HP := hid hP
  have HD := hid hD
  have Hpm := hid hpm
  have HX := hid hsx
  have Hn := hid (And.intro n0 (And.intro n1 n2))
  have HQ := hid hQ
  have HM := hid hM
  have Hn2 := hid (And.intro n4 n5)
  clear hC hR hP hD hpm hsx n0 n1 n2 hQ hM n4 n5
  go_enter Tryz.func42, Tryz.ntmps42
  go_wp2_with fail
  refine (clip1_k HC.out (w0 := w) (gb_alloc (gb_alloc (gb_alloc (gb_refl _ _) _) _) _) (Nat.le_refl _) (by omega) (by omega) (by omega) (by omega) (by omega) (Src.k0 HD.out).bd HSs.out.bd (Src.k2 HM.out).bd (cp_start _ _ _ _ _ _ _ _ _)).mono ?_
  rintro e w1 ⟨rfl, hg, ⟨c0, c1, c2, c3, k0, k1, l0, l1, fr, fp, fq⟩⟩
  have z1 : w.heap.size < w1.heap.size := World.block_lt_of_cell? w1 _ c0
  have z2 : w.heap.size + 1 < w1.heap.size := World.block_lt_of_cell? w1 _ k0
  have z3 : w.heap.size + 2 < w1.heap.size := World.block_lt_of_cell? w1 _ l0
  clear fr fp fq
  have Hg := hid hg
  clear hg
  go_wp2_with fail
  refine (empty_c b0 b1 b2 b3 _).mono ?_
  rintro e w2 ⟨rfl, rfl⟩
  rw [Hem.out]
  go_wp2_with fail
  have HG := hid (gb_alloc Hg.out (.cells #[.int .i64 b0, .int .i64 b1, .int .i64 b2, .int .i64 b3] 78))
  refine Calls.mono (drawGlyphOver_c (s := s) (c := c) _ (HD.out.kept0 HG.out) ((gb_cell0 HG.out (p := ⟨bs, 0, none⟩) Hll.out).trans Hcc.out) (HM.out.kept0 HG.out) Hn2.out.1 Hn2.out.2 HR.out HQ.out Hby.out (fun i => by rw [Hcl.out]) Hpm6.out) ?_
  rintro e w3 h3
  have h4 := drawn_of HG.out h3
  obtain ⟨rfl, h5⟩ := h4
  have H5 := hid h5
  clear h3 h5
  go_wp2
  exact bodyPost_ret (v := .tuple #[]) (by simp [results, Tryz.results42]) rfl ⟨rfl, H5.out⟩
end Go.Proofs.YtgjpohmjkhgpfaaGreat
