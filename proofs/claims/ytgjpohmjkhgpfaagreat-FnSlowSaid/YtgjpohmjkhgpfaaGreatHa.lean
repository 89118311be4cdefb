/- Parts of the proof: what the functions of the package and of the reference do (X8, N12, LQ0, LR). No condition but those that each theorem names. -/
import Derived.Test.YtgjpohmjkhgpfaaGreatD17
import Derived.Test.YtgjpohmjkhgpfaaGreatD20
import Derived.Test.YtgjpohmjkhgpfaaGreatD21
import Derived.Test.YtgjpohmjkhgpfaaGreatD22
import Derived.Test.YtgjpohmjkhgpfaaGreatD23
import Derived.Test.YtgjpohmjkhgpfaaGreatD18
import Derived.Test.YtgjpohmjkhgpfaaGreatD19
import Derived.Test.YtgjpohmjkhgpfaaGreatD09
import Derived.Test.YtgjpohmjkhgpfaaGreatD14
import Derived.Deep.QuietTactic
set_option linter.unusedSimpArgs false
set_option linter.unusedVariables false
namespace Go.Proofs.YtgjpohmjkhgpfaaGreat
open Go.RowKit

theorem Src.tas {w : World} {b pb h wd k : Nat} {x0 y0 : Int} {S : Nat → Nat → Nat → Int} {t : TypeId} (H : Src w b pb h wd x0 y0 S k t) (hk : k = 2 ∨ k = 4) (w' : World) :
    (Instr.typeAssert (.iface t (.pointer (some ⟨b, 0, none⟩))) 72 100 true).run Tryz.prog w' = .ok (.tuple #[.pointer none, .bool false]) w' ∧
    (Instr.typeAssert (.iface t (.pointer (some ⟨b, 0, none⟩))) 72 85 true).run Tryz.prog w' = .ok (.tuple #[.pointer none, .bool false]) w' ∧
    (Instr.typeAssert (.iface t (.pointer (some ⟨b, 0, none⟩))) 72 88 true).run Tryz.prog w' = .ok (.tuple #[.pointer none, .bool false]) w' ∧
    (Instr.typeAssert (.iface t (.pointer (some ⟨b, 0, none⟩))) 72 113 true).run Tryz.prog w' = .ok (.tuple #[.pointer none, .bool false]) w' ∧
    (Instr.typeAssert (.iface t (.pointer (some ⟨b, 0, none⟩))) 72 92 true).run Tryz.prog w' = .ok (.tuple #[.pointer none, .bool false]) w' ∧
    (Instr.typeAssert (.iface t (.pointer (some ⟨b, 0, none⟩))) 72 96 true).run Tryz.prog w' = .ok (.tuple #[.pointer none, .bool false]) w' := by
  cases H <;> (first | omega | skip)
  · exact ⟨by go_simp, by go_simp, by go_simp, by go_simp, by go_simp, by go_simp⟩
  · exact ⟨by go_simp, by go_simp, by go_simp, by go_simp, by go_simp, by go_simp⟩
theorem Src.tam {w : World} {b pb h wd k : Nat} {x0 y0 : Int} {S : Nat → Nat → Nat → Int} {t : TypeId} (H : Src w b pb h wd x0 y0 S k t) (hk : k ≠ 2) (w' : World) :
    (Instr.typeAssert (.iface t (.pointer (some ⟨b, 0, none⟩))) 72 90 true).run Tryz.prog w' = .ok (.tuple #[.pointer none, .bool false]) w' := by
  cases H <;> (first | omega | go_simp)
theorem Pic.lim {w : World} {b T pb k h wd : Nat} {x0 y0 : Int} {P : Nat → Nat → Nat → Int} (H : Pic w b T pb k h wd x0 y0 P) : b ≠ pb := by
  obtain ⟨_, _, _, -, -, -, -, -, -, h, -⟩ := H; exact h
theorem q_small {qx qy x0 y0 b0 b1 q0 q1 : Int} (h1 : sm qx) (h2 : sm qy) (h3 : sm x0) (h4 : sm y0) (h5 : sm b0) (h6 : sm b1) (e0 : qx + (b0 - x0) = q0) (e1 : qy + (b1 - y0) = q1) : -9000000000 ≤ q0 ∧ q0 ≤ 9000000000 ∧ -9000000000 ≤ q1 ∧ q1 ≤ 9000000000 := by
  unfold sm at *; omega


set_option maxRecDepth 100000 in
set_option maxHeartbeats 8000000 in
theorem dm_0_n0 {bd pd dh dw bs ps sh sw ks rx ry xe ye sx sy : Nat} {dx0 dy0 sx0 sy0 x0 y0 x1 y1 px py qx qy b0 b1 b2 b3 p0 p1 q0 q1 : Int} {D S : Nat → Nat → Nat → Int} {ts : TypeId} (w : World)
    (hD : Pic w bd 87 pd 4 dh dw dx0 dy0 D) (hS : Src w bs ps sh sw sx0 sy0 S ks ts) (hks : ks = 2 ∨ ks = 4) (hpm : ∀ r c, Pm ks (S r c)) (n0 : bd ≠ bs) (n1 : bs ≠ pd) (n2 : ps ≠ pd)
    (hC : Cl0 x0 y0 x1 y1 px py qx qy dx0 dy0 (dx0 + dw) (dy0 + dh) sx0 sy0 (sx0 + sw) (sy0 + sh) b0 b1 b2 b3 p0 p1 q0 q1)
    (hR : Rct b0 b1 b2 b3 dx0 dy0 rx ry xe ye dh dw) (hP : Plc p0 p1 sx0 sy0 sx sy rx ry xe ye sh sw) (hsx : sm sx0 ∧ sm sy0 ∧ sm sw ∧ sm sh) :
    Calls Tryz.prog 42 #[.iface 85 (.pointer (some ⟨bd, 0, none⟩)), vR x0 y0 x1 y1, .iface ts (.pointer (some ⟨bs, 0, none⟩)), vP px py, .nilIface, vP qx qy, .int .i64 0] w
      (Drawn w pd 4 dh dw rx ry xe ye (fun r c => px0 0 ks 0 (D r c) (S (sy + (r - ry)) (sx + (c - rx)))) D) := by
  have HC := hid hC
  have Hem := hid (rct_ne hR)
  have HR := hid hR
  have HP := hid hP
  have HD := hid hD
  have HS := hid hS
  have Hpm := hid hpm
  have HX := hid hsx
  have Hn := hid (And.intro n0 (And.intro n1 n2))
  have TA := fun w' => hS.tas hks w'
  have TA1 := fun w' => (TA w').1
  have TA2 := fun w' => (TA w').2.1
  have TA3 := fun w' => (TA w').2.2.1
  have TA4 := fun w' => (TA w').2.2.2.1
  have TA5 := fun w' => (TA w').2.2.2.2.1
  have TA6 := fun w' => (TA w').2.2.2.2.2
  clear TA hks
  clear hC hR hP hD hS hpm hsx n0 n1 n2
  go_enter Tryz.func42, Tryz.ntmps42
  go_wp2_with fail
  refine (clip0_k HC.out (w0 := w) (gb_alloc (gb_alloc (gb_alloc (gb_refl _ _) _) _) _) (Nat.le_refl _) (by omega) (by omega) (by omega) (by omega) (by omega) (Src.k0 HD.out).bd HS.out.bd (cp_start _ _ _ _ _ _ _ _ _)).mono ?_
  rintro e w1 ⟨rfl, hg, ⟨c0, c1, c2, c3, k0, k1, l0, l1, fr, fp, fq⟩⟩
  have z1 : w.heap.size < w1.heap.size := World.block_lt_of_cell? w1 _ c0
  have z2 : w.heap.size + 1 < w1.heap.size := World.block_lt_of_cell? w1 _ k0
  have z3 : w.heap.size + 2 < w1.heap.size := World.block_lt_of_cell? w1 _ l0
  clear fr fp fq
  have Hg := hid hg
  clear hg
  go_wp2_with fail
  refine (empty_c b0 b1 b2 b3 _).mono ?_
  rintro e w2 ⟨rfl, rfl⟩
  rw [Hem.out]
  go_wp2_with fail
  have HG := hid (gb_alloc Hg.out (.cells #[.int .i64 b0, .int .i64 b1, .int .i64 b2, .int .i64 b3] 78))
  refine Calls.mono (drgba_n0 (T1 := ts) _ (HD.out.kept0 HG.out) (HS.out.kept0 HG.out) Hn.out.1 Hn.out.2.1 Hn.out.2.2 Hpm.out HR.out HP.out HX.out (by obtain ⟨⟨u1, u2, u3, u4, u5, u6, -, -, -, -, -, -, u7, u8⟩, -, -, -, e0, e1⟩ := HC.out; exact q_small u5 u6 u1 u2 u7 u8 e0 e1)) ?_
  rintro e w3 h3
  have h4 := drawn_of HG.out h3
  obtain ⟨rfl, h5⟩ := h4
  have H5 := hid h5
  clear h3 h5
  go_wp2
  exact bodyPost_ret (v := .tuple #[]) (by simp [results, Tryz.results42]) rfl ⟨rfl, H5.out⟩

set_option maxRecDepth 100000 in
set_option maxHeartbeats 8000000 in
theorem dm_0_n1 {bd pd dh dw bs ps sh sw ks rx ry xe ye sx sy : Nat} {dx0 dy0 sx0 sy0 x0 y0 x1 y1 px py qx qy b0 b1 b2 b3 p0 p1 q0 q1 : Int} {D S : Nat → Nat → Nat → Int} {ts : TypeId} (w : World)
    (hD : Pic w bd 87 pd 4 dh dw dx0 dy0 D) (hS : Src w bs ps sh sw sx0 sy0 S ks ts) (hks : ks = 2 ∨ ks = 4) (hpm : ∀ r c, Pm ks (S r c)) (n0 : bd ≠ bs) (n1 : bs ≠ pd) (n2 : ps ≠ pd)
    (hC : Cl0 x0 y0 x1 y1 px py qx qy dx0 dy0 (dx0 + dw) (dy0 + dh) sx0 sy0 (sx0 + sw) (sy0 + sh) b0 b1 b2 b3 p0 p1 q0 q1)
    (hR : Rct b0 b1 b2 b3 dx0 dy0 rx ry xe ye dh dw) (hP : Plc p0 p1 sx0 sy0 sx sy rx ry xe ye sh sw) (hsx : sm sx0 ∧ sm sy0 ∧ sm sw ∧ sm sh) :
    Calls Tryz.prog 42 #[.iface 85 (.pointer (some ⟨bd, 0, none⟩)), vR x0 y0 x1 y1, .iface ts (.pointer (some ⟨bs, 0, none⟩)), vP px py, .nilIface, vP qx qy, .int .i64 1] w
      (Drawn w pd 4 dh dw rx ry xe ye (fun r c => px0 0 ks 1 (D r c) (S (sy + (r - ry)) (sx + (c - rx)))) D) := by
  have HC := hid hC
  have Hem := hid (rct_ne hR)
  have HR := hid hR
  have HP := hid hP
  have HD := hid hD
  have HS := hid hS
  have Hpm := hid hpm
  have HX := hid hsx
  have Hn := hid (And.intro n0 (And.intro n1 n2))
  have TA := fun w' => hS.tas hks w'
  have TA1 := fun w' => (TA w').1
  have TA2 := fun w' => (TA w').2.1
  have TA3 := fun w' => (TA w').2.2.1
  have TA4 := fun w' => (TA w').2.2.2.1
  have TA5 := fun w' => (TA w').2.2.2.2.1
  have TA6 := fun w' => (TA w').2.2.2.2.2
  clear TA hks
  clear hC hR hP hD hS hpm hsx n0 n1 n2
  go_enter Tryz.func42, Tryz.ntmps42
  go_wp2_with fail
  refine (clip0_k HC.out (w0 := w) (gb_alloc (gb_alloc (gb_alloc (gb_refl _ _) _) _) _) (Nat.le_refl _) (by omega) (by omega) (by omega) (by omega) (by omega) (Src.k0 HD.out).bd HS.out.bd (cp_start _ _ _ _ _ _ _ _ _)).mono ?_
  rintro e w1 ⟨rfl, hg, ⟨c0, c1, c2, c3, k0, k1, l0, l1, fr, fp, fq⟩⟩
  have z1 : w.heap.size < w1.heap.size := World.block_lt_of_cell? w1 _ c0
  have z2 : w.heap.size + 1 < w1.heap.size := World.block_lt_of_cell? w1 _ k0
  have z3 : w.heap.size + 2 < w1.heap.size := World.block_lt_of_cell? w1 _ l0
  clear fr fp fq
  have Hg := hid hg
  clear hg
  go_wp2_with fail
  refine (empty_c b0 b1 b2 b3 _).mono ?_
  rintro e w2 ⟨rfl, rfl⟩
  rw [Hem.out]
  go_wp2_with fail
  have HG := hid (gb_alloc Hg.out (.cells #[.int .i64 b0, .int .i64 b1, .int .i64 b2, .int .i64 b3] 78))
  refine Calls.mono (drgba_n1 (T1 := ts) _ (HD.out.kept0 HG.out) (HS.out.kept0 HG.out) Hn.out.1 Hn.out.2.1 Hn.out.2.2 Hpm.out HR.out HP.out HX.out (by obtain ⟨⟨u1, u2, u3, u4, u5, u6, -, -, -, -, -, -, u7, u8⟩, -, -, -, e0, e1⟩ := HC.out; exact q_small u5 u6 u1 u2 u7 u8 e0 e1)) ?_
  rintro e w3 h3
  have h4 := drawn_of HG.out h3
  obtain ⟨rfl, h5⟩ := h4
  have H5 := hid h5
  clear h3 h5
  go_wp2
  exact bodyPost_ret (v := .tuple #[]) (by simp [results, Tryz.results42]) rfl ⟨rfl, H5.out⟩

set_option maxRecDepth 100000 in
set_option maxHeartbeats 8000000 in
theorem dm_0_m0 {bd pd dh dw bs ps sh sw ks bm pm mh mw km rx ry xe ye sx sy mx my : Nat} {dx0 dy0 sx0 sy0 mx0 my0 x0 y0 x1 y1 px py qx qy b0 b1 b2 b3 p0 p1 q0 q1 : Int} {D S M : Nat → Nat → Nat → Int} {ts tm : TypeId} (w : World)
    (hD : Pic w bd 87 pd 4 dh dw dx0 dy0 D) (hS : Src w bs ps sh sw sx0 sy0 S ks ts) (hM : Src w bm pm mh mw mx0 my0 M km tm) (hkm : km ≠ 2) (hpm : ∀ r c, Pm ks (S r c)) (n0 : bd ≠ bs) (n1 : bs ≠ pd) (n2 : ps ≠ pd) (n4 : bm ≠ pd) (n5 : pm ≠ pd)
    (hC : Cl1 x0 y0 x1 y1 px py qx qy dx0 dy0 (dx0 + dw) (dy0 + dh) sx0 sy0 (sx0 + sw) (sy0 + sh) mx0 my0 (mx0 + mw) (my0 + mh) b0 b1 b2 b3 p0 p1 q0 q1)
    (hR : Rct b0 b1 b2 b3 dx0 dy0 rx ry xe ye dh dw) (hP : Plc p0 p1 sx0 sy0 sx sy rx ry xe ye sh sw) (hQ : Plc q0 q1 mx0 my0 mx my rx ry xe ye mh mw) (hsx : sm sx0 ∧ sm sy0 ∧ sm sw ∧ sm sh) (hmx : sm mx0 ∧ sm my0 ∧ sm mw ∧ sm mh) :
    Calls Tryz.prog 42 #[.iface 85 (.pointer (some ⟨bd, 0, none⟩)), vR x0 y0 x1 y1, .iface ts (.pointer (some ⟨bs, 0, none⟩)), vP px py, .iface tm (.pointer (some ⟨bm, 0, none⟩)), vP qx qy, .int .i64 0] w
      (Drawn w pd 4 dh dw rx ry xe ye (fun r c => pxM 0 ks km 0 (D r c) (S (sy + (r - ry)) (sx + (c - rx))) (M (my + (r - ry)) (mx + (c - rx)))) D) := by
  have HC := hid hC
  have Hem := hid (rct_ne hR)
  have HR := hid hR
  have HP := hid hP
  have HD := hid hD
  have HS := hid hS
  have Hpm := hid hpm
  have HX := hid hsx
  have Hn := hid (And.intro n0 (And.intro n1 n2))
  have HQ := hid hQ
  have HM := hid hM
  have HXm := hid hmx
  have Hn2 := hid (And.intro n4 n5)
  have TA1 := fun w' => hM.tam hkm w'
  clear hC hR hP hD hS hpm hsx n0 n1 n2 hQ hM hmx n4 n5 hkm
  go_enter Tryz.func42, Tryz.ntmps42
  go_wp2_with fail
  refine (clip1_k HC.out (w0 := w) (gb_alloc (gb_alloc (gb_alloc (gb_refl _ _) _) _) _) (Nat.le_refl _) (by omega) (by omega) (by omega) (by omega) (by omega) (Src.k0 HD.out).bd HS.out.bd HM.out.bd (cp_start _ _ _ _ _ _ _ _ _)).mono ?_
  rintro e w1 ⟨rfl, hg, ⟨c0, c1, c2, c3, k0, k1, l0, l1, fr, fp, fq⟩⟩
  have z1 : w.heap.size < w1.heap.size := World.block_lt_of_cell? w1 _ c0
  have z2 : w.heap.size + 1 < w1.heap.size := World.block_lt_of_cell? w1 _ k0
  have z3 : w.heap.size + 2 < w1.heap.size := World.block_lt_of_cell? w1 _ l0
  clear fr fp fq
  have Hg := hid hg
  clear hg
  go_wp2_with fail
  refine (empty_c b0 b1 b2 b3 _).mono ?_
  rintro e w2 ⟨rfl, rfl⟩
  rw [Hem.out]
  go_wp2_with fail
  have HG := hid (gb_alloc Hg.out (.cells #[.int .i64 b0, .int .i64 b1, .int .i64 b2, .int .i64 b3] 78))
  refine Calls.mono (drgba_m0 (T1 := ts) _ (HD.out.kept0 HG.out) (HS.out.kept0 HG.out) (HM.out.kept0 HG.out) Hn.out.1 Hn.out.2.1 Hn.out.2.2 Hn2.out.1 Hn2.out.2 Hpm.out HR.out HP.out HQ.out HX.out HXm.out) ?_
  rintro e w3 h3
  have h4 := drawn_of HG.out h3
  obtain ⟨rfl, h5⟩ := h4
  have H5 := hid h5
  clear h3 h5
  go_wp2
  exact bodyPost_ret (v := .tuple #[]) (by simp [results, Tryz.results42]) rfl ⟨rfl, H5.out⟩

set_option maxRecDepth 100000 in
set_option maxHeartbeats 8000000 in
theorem dm_0_m1 {bd pd dh dw bs ps sh sw ks bm pm mh mw km rx ry xe ye sx sy mx my : Nat} {dx0 dy0 sx0 sy0 mx0 my0 x0 y0 x1 y1 px py qx qy b0 b1 b2 b3 p0 p1 q0 q1 : Int} {D S M : Nat → Nat → Nat → Int} {ts tm : TypeId} (w : World)
    (hD : Pic w bd 87 pd 4 dh dw dx0 dy0 D) (hS : Src w bs ps sh sw sx0 sy0 S ks ts) (hM : Src w bm pm mh mw mx0 my0 M km tm) (hpm : ∀ r c, Pm ks (S r c)) (n0 : bd ≠ bs) (n1 : bs ≠ pd) (n2 : ps ≠ pd) (n4 : bm ≠ pd) (n5 : pm ≠ pd)
    (hC : Cl1 x0 y0 x1 y1 px py qx qy dx0 dy0 (dx0 + dw) (dy0 + dh) sx0 sy0 (sx0 + sw) (sy0 + sh) mx0 my0 (mx0 + mw) (my0 + mh) b0 b1 b2 b3 p0 p1 q0 q1)
    (hR : Rct b0 b1 b2 b3 dx0 dy0 rx ry xe ye dh dw) (hP : Plc p0 p1 sx0 sy0 sx sy rx ry xe ye sh sw) (hQ : Plc q0 q1 mx0 my0 mx my rx ry xe ye mh mw) (hsx : sm sx0 ∧ sm sy0 ∧ sm sw ∧ sm sh) (hmx : sm mx0 ∧ sm my0 ∧ sm mw ∧ sm mh) :
    Calls Tryz.prog 42 #[.iface 85 (.pointer (some ⟨bd, 0, none⟩)), vR x0 y0 x1 y1, .iface ts (.pointer (some ⟨bs, 0, none⟩)), vP px py, .iface tm (.pointer (some ⟨bm, 0, none⟩)), vP qx qy, .int .i64 1] w
      (Drawn w pd 4 dh dw rx ry xe ye (fun r c => pxM 0 ks km 1 (D r c) (S (sy + (r - ry)) (sx + (c - rx))) (M (my + (r - ry)) (mx + (c - rx)))) D) := by
  have HC := hid hC
  have Hem := hid (rct_ne hR)
  have HR := hid hR
  have HP := hid hP
  have HD := hid hD
  have HS := hid hS
  have Hpm := hid hpm
  have HX := hid hsx
  have Hn := hid (And.intro n0 (And.intro n1 n2))
  have HQ := hid hQ
  have HM := hid hM
  have HXm := hid hmx
  have Hn2 := hid (And.intro n4 n5)
  clear hC hR hP hD hS hpm hsx n0 n1 n2 hQ hM hmx n4 n5
  go_enter Tryz.func42, Tryz.ntmps42
  go_wp2_with fail
  refine (clip1_k HC.out (w0 := w) (gb_alloc (gb_alloc (gb_alloc (gb_refl _ _) _) _) _) (Nat.le_refl _) (by omega) (by omega) (by omega) (by omega) (by omega) (Src.k0 HD.out).bd HS.out.bd HM.out.bd (cp_start _ _ _ _ _ _ _ _ _)).mono ?_
  rintro e w1 ⟨rfl, hg, ⟨c0, c1, c2, c3, k0, k1, l0, l1, fr, fp, fq⟩⟩
  have z1 : w.heap.size < w1.heap.size := World.block_lt_of_cell? w1 _ c0
  have z2 : w.heap.size + 1 < w1.heap.size := World.block_lt_of_cell? w1 _ k0
  have z3 : w.heap.size + 2 < w1.heap.size := World.block_lt_of_cell? w1 _ l0
  clear fr fp fq
  have Hg := hid hg
  clear hg
  go_wp2_with fail
  refine (empty_c b0 b1 b2 b3 _).mono ?_
  rintro e w2 ⟨rfl, rfl⟩
  rw [Hem.out]
  go_wp2_with fail
  have HG := hid (gb_alloc Hg.out (.cells #[.int .i64 b0, .int .i64 b1, .int .i64 b2, .int .i64 b3] 78))
  refine Calls.mono (drgba_m1 (T1 := ts) _ (HD.out.kept0 HG.out) (HS.out.kept0 HG.out) (HM.out.kept0 HG.out) Hn.out.1 Hn.out.2.1 Hn.out.2.2 Hn2.out.1 Hn2.out.2 Hpm.out HR.out HP.out HQ.out HX.out HXm.out) ?_
  rintro e w3 h3
  have h4 := drawn_of HG.out h3
  obtain ⟨rfl, h5⟩ := h4
  have H5 := hid h5
  clear h3 h5
  go_wp2
  exact bodyPost_ret (v := .tuple #[]) (by simp [results, Tryz.results42]) rfl ⟨rfl, H5.out⟩
end Go.Proofs.YtgjpohmjkhgpfaaGreat

namespace Go.Proofs.YtgjpohmjkhgpfaaGreat
open Go.RowKit

/-- the colors of an image's bytes are not above alpha -/
def Pmk (k : Nat) (p : Nat → Int) : Prop := ∀ j, Pm k (fun ch => p (j * sz k + ch))
theorem pm_src {k wd : Nat} {p : Nat → Int} (h : Pmk k p) (r c : Nat) : Pm k (srcP k wd p r c) := by
  unfold srcP
  by_cases e : k = 6
  · rw [if_pos e]
    have := h 0
    simpa using this
  · rw [if_neg e]
    exact pm_toP h r c

theorem mdm0_all {w : World} {B n c b kd dh dw B' n' c' b' ks sh sw op : Nat} {dx0 dy0 dx1 dy1 sx0 sy0 sx1 sy1 x0 y0 x1 y1 px py : Int} {p s : Nat → Int} {A A' : Option Addr} {td ts : TypeId} (hop : op ≤ 1) (hkd : kd = 0 ∨ kd = 2 ∨ kd = 4) (hks : ks ≤ 6)
    (Hd : IM w B dx0 dy0 dx1 dy1 n p A c b kd td) (Hs : IM w B' sx0 sy0 sx1 sy1 n' s A' c' b' ks ts) (GD : Geo kd dx0 dy0 dx1 dy1 n dh dw) (GS : Geo ks sx0 sy0 sx1 sy1 n' sh sw) (hp : By p) (hs : By s)
    (hpm : Pmk ks s) (hap : Apart A b' A')
    (m1 : sm x0) (m2 : sm y0) (m3 : sm px) (m4 : sm py) (m5 : sm (x0 - px)) (m6 : sm (y0 - py)) :
    Calls Tryz.prog 42 #[.iface td (.pointer (some ⟨b, 0, none⟩)), vR x0 y0 x1 y1, .iface ts (.pointer (some ⟨b', 0, none⟩)), vP px py, .nilIface, vP 0 0, .int .i64 op] w
      (DMout w B n c A (resB kd dw (In0 x0 y0 x1 y1 px py dx0 dy0 sx0 sy0 sh sw) (fun r c => px0 kd ks op (toP dw (sz kd) p r c) (srcAt ks sw s x0 y0 px py dx0 dy0 sx0 sy0 r c)) p)) := by
  have hpm2 := fun r c => pm_src (wd := sw) hpm r c
  by_cases hkd' : kd = 2 ∨ kd = 4
  · exact mdm_k hop hkd' Hd Hs GD GS hp hs hpm2 hap m1 m2 m3 m4 m5 m6
  · obtain rfl : kd = 0 := by omega
    by_cases h0 : ks = 0
    · subst h0
      exact mdm_0_0 hop Hd Hs GD GS hp hs hpm hap m1 m2 m3 m4 m5 m6
    by_cases h6 : ks = 6
    · subst h6
      exact mdm_0_6 hop Hd Hs GD GS hp hs (by have := hpm 0; simpa using this) m1 m2 m3 m4 m5 m6
    refine mdm0_of (by omega) Hd Hs GD GS hp hs m1 m2 m3 m4 m5 m6 ?_
    intro rx ry xe ye ax ay b0 b1 b2 b3 p0 p1 q0 q1 g hA S1 S2 hC hR hP
    have hR' := hR
    obtain ⟨-, -, -, -, r1, r2, r3, r4⟩ := hR'
    have hP' := hP
    obtain ⟨-, -, r5, r6⟩ := hP'
    obtain ⟨n1, n2⟩ := apart_of (hap _ hA) Hs GS (by omega) (by omega)
    have n3 := src_apart S1 S2 (by omega) n2
    have hsx := src_sm S2
    cases S1
    case k0 S1 =>
    have hop' : op = 0 ∨ op = 1 := by omega
    by_cases h24 : ks = 2 ∨ ks = 4
    · rcases hop' with rfl | rfl
      · exact dm_0_n0 w S1 S2 h24 hpm2 n3 n1 n2 hC hR hP hsx
      · exact dm_0_n1 w S1 S2 h24 hpm2 n3 n1 n2 hC hR hP hsx
    · have hk : ks = 1 ∨ ks = 3 ∨ ks = 5 := by omega
      rcases hk with rfl | rfl | rfl
      · cases S2
        case k1 S2 =>
        rcases hop' with rfl | rfl
        · exact dm_0_1_0 w S1 S2 n1 n2 hC hR hP
        · exact dm_0_1_1 w S1 S2 n1 n2 hC hR hP
      · cases S2
        case k3 S2 =>
        rcases hop' with rfl | rfl
        · exact dm_0_3_0 w S1 S2 n1 n2 hC hR hP
        · exact dm_0_3_1 w S1 S2 n1 n2 hC hR hP
      · cases S2
        case k5 S2 =>
        rcases hop' with rfl | rfl
        · exact dm_0_5_0 w S1 S2 n1 n2 hC hR hP
        · exact dm_0_5_1 w S1 S2 n1 n2 hC hR hP
end Go.Proofs.YtgjpohmjkhgpfaaGreat

namespace Go.Proofs.YtgjpohmjkhgpfaaGreat
open Go.RowKit

theorem vsOK2 {a1 a2 s1 s2 : Nat} {v1 v2 : List Value} (h : (a1 != a2 && s1 != s2 && a1 != s1 && a1 != s2 && a2 != s1 && a2 != s2) = true) : vsOK [(a1, s1, v1), (a2, s2, v2)] := by
  simp only [Bool.and_eq_true, bne_iff_ne] at h
  obtain ⟨⟨⟨⟨⟨h1, h2⟩, h3⟩, h4⟩, h5⟩, h6⟩ := h
  refine ⟨fun x y hx hy e => ?_, fun x y hx hy e => ?_, fun x y hx hy e => ?_⟩ <;>
    (simp only [List.mem_cons, List.not_mem_nil, or_false] at hx hy; rcases hx with rfl | rfl <;> rcases hy with rfl | rfl <;> first | rfl | (exfalso; simp only at e; omega))
theorem st6 {w : World} {g : Nat} {u0 u1 u2 u3 u4 u5 v0 v1 v2 v3 v4 v5 : Value} (c0 : w.cell? ⟨g, 0, none⟩ = some u0) (c1 : w.cell? ⟨g, 1, none⟩ = some u1) (c2 : w.cell? ⟨g, 2, none⟩ = some u2) (c3 : w.cell? ⟨g, 3, none⟩ = some u3) (c4 : w.cell? ⟨g, 4, none⟩ = some u4) (c5 : w.cell? ⟨g, 5, none⟩ = some u5) :
    w.grownBy ((((((w.setCell ⟨g, 0, none⟩ v0).setCell ⟨g, 1, none⟩ v1).setCell ⟨g, 2, none⟩ v2).setCell ⟨g, 3, none⟩ v3).setCell ⟨g, 4, none⟩ v4).setCell ⟨g, 5, none⟩ v5) (some g) ∧
      (∀ k v, [v0, v1, v2, v3, v4, v5][k]? = some v → ((((((w.setCell ⟨g, 0, none⟩ v0).setCell ⟨g, 1, none⟩ v1).setCell ⟨g, 2, none⟩ v2).setCell ⟨g, 3, none⟩ v3).setCell ⟨g, 4, none⟩ v4).setCell ⟨g, 5, none⟩ v5).cell? ⟨g, k, none⟩ = some v) ∧
      ∀ k, ((((((w.setCell ⟨g, 0, none⟩ v0).setCell ⟨g, 1, none⟩ v1).setCell ⟨g, 2, none⟩ v2).setCell ⟨g, 3, none⟩ v3).setCell ⟨g, 4, none⟩ v4).setCell ⟨g, 5, none⟩ v5).frozen? ⟨g, k, none⟩ = w.frozen? ⟨g, k, none⟩ := by
  have q0 : w.grownBy (w.setCell ⟨g, 0, none⟩ v0) (some g) := gb_setCell (gb_refl _ _) (p := ⟨g, 0, none⟩) (.inl rfl) _
  have q1 := gb_setCell q0 (p := ⟨g, 1, none⟩) (.inl rfl) v1
  have q2 := gb_setCell q1 (p := ⟨g, 2, none⟩) (.inl rfl) v2
  have q3 := gb_setCell q2 (p := ⟨g, 3, none⟩) (.inl rfl) v3
  have q4 := gb_setCell q3 (p := ⟨g, 4, none⟩) (.inl rfl) v4
  have q5 := gb_setCell q4 (p := ⟨g, 5, none⟩) (.inl rfl) v5
  refine ⟨q5, fun k v hk => ?_, fun k => by simp⟩
  rcases k with _ | _ | _ | _ | _ | _ | k <;> (first | (cases hk; go_simp; done) | (simp at hk; done))
/-- a pixel of the destination lies in the cut rectangle -/
def InC (b0 b1 b2 b3 x0 y0 : Int) (r c : Nat) : Prop := b0 ≤ x0 + (c : Int) ∧ x0 + (c : Int) < b2 ∧ b1 ≤ y0 + (r : Int) ∧ y0 + (r : Int) < b3
/-- an image of the reference, where At can be asked -/
def AtOK (k : Nat) (X0 Y0 X1 : Int) (n sh sw : Nat) : Prop := (k = 6 ∧ n = 8) ∨ (k < 6 ∧ X1 - X0 = sw ∧ n = sh * (sw * sz k) ∧ sw ≤ 128 ∧ sh ≤ 128 ∧ -5000 ≤ X0 ∧ X0 ≤ 5000 ∧ -5000 ≤ Y0 ∧ Y0 ≤ 5000)
theorem at_c {k r c sh sw n cp : Nat} {x0 y0 x1 y1 x y : Int} {A : Option Addr} {p : Nat → Int} (w : World) (H : Rd w A n p) (hp : By p) (hn : n ≤ cp) (hc : cp ≤ 9223372036854775807) (hG : AtOK k x0 y0 x1 n sh sw) (hx : k = 6 ∨ (x - x0 = c ∧ y - y0 = r ∧ c < sw ∧ r < sh)) {v : Nat → Int} (hv : cl k (srcP k sw p r c) = v) :
    Calls Tryz.prog 32 #[vI k x0 y0 x1 y1 A n cp, .int .i64 x, .int .i64 y] w fun e w' => e = .returned (v4i (v 0) (v 1) (v 2) (v 3)) ∧ w.grownBy w' none := by
  subst hv
  rcases hG with ⟨rfl, rfl⟩ | ⟨h6, g1, g2, g3, g4, g5, g6, g7, g8⟩
  · have e : srcP 6 sw p r c = p := by unfold srcP; rw [if_pos rfl]
    rw [e]
    exact at_6 w H hp
  · rcases hx with h | ⟨e1, e2, e3, e4⟩
    · omega
    · have e : srcP k sw p r c = fun ch => p (r * (sw * sz k) + c * sz k + ch) := by unfold srcP; rw [if_neg (by omega)]; rfl
      rw [e]
      have hk : k = 0 ∨ k = 1 ∨ k = 2 ∨ k = 3 ∨ k = 4 ∨ k = 5 := by omega
      rcases hk with rfl | rfl | rfl | rfl | rfl | rfl
      · exact at_0 w H hp hn hc e1 e2 g1 e3 e4 g2 g3 g4 ⟨g5, g6⟩ ⟨g7, g8⟩ rfl
      · exact at_1 w H hp hn hc e1 e2 g1 e3 e4 g2 g3 g4 ⟨g5, g6⟩ ⟨g7, g8⟩ rfl
      · exact at_2 w H hp hn hc e1 e2 g1 e3 e4 g2 g3 g4 ⟨g5, g6⟩ ⟨g7, g8⟩ rfl
      · exact at_3 w H hp hn hc e1 e2 g1 e3 e4 g2 g3 g4 ⟨g5, g6⟩ ⟨g7, g8⟩ rfl
      · exact at_4 w H hp hn hc e1 e2 g1 e3 e4 g2 g3 g4 ⟨g5, g6⟩ ⟨g7, g8⟩ rfl
      · exact at_5 w H hp hn hc e1 e2 g1 e3 e4 g2 g3 g4 ⟨g5, g6⟩ ⟨g7, g8⟩ rfl

set_option maxRecDepth 100000 in
set_option maxHeartbeats 16000000 in
theorem drawnN_0 {n n' cd cg cs dh dw ks sh sw op : Nat} {Xd0 Yd0 Xd1 Yd1 X0 Y0 X1 Y1 b0 b1 b2 b3 p0 p1 k0 k1 : Int} {Ad Ag As : Option Addr} {p q s : Nat → Int} (w : World) (hop : op ≤ 1)
    (hd : Rd w Ad n p) (hq : Rd w Ag n q) (hs : Rd w As n' s) (hpb : By p) (hqb : By q) (hsb : By s) (c1 : n ≤ cd) (c2 : cd ≤ 9223372036854775807) (c3 : n ≤ cg) (c4 : cg ≤ 9223372036854775807) (c5 : n' ≤ cs) (c6 : cs ≤ 9223372036854775807)
    (gx : Xd1 = Xd0 + dw) (gy : Yd1 = Yd0 + dh) (gm : n = dh * (dw * 4)) (gw : dw ≤ 128) (gh : dh ≤ 128) (gv : -64 ≤ Xd0 ∧ Xd0 ≤ 64 ∧ -64 ≤ Yd0 ∧ Yd0 ≤ 64)
    (hG : AtOK ks X0 Y0 X1 n' sh sw) (hpm : ∀ r c, Pm ks (srcP ks sw s r c)) (hbp : -9000000000 ≤ b0 ∧ b0 ≤ 9000000000 ∧ -9000000000 ≤ b1 ∧ b1 ≤ 9000000000 ∧ -9000000000 ≤ p0 ∧ p0 ≤ 9000000000 ∧ -9000000000 ≤ p1 ∧ p1 ≤ 9000000000)
    (hout : ∀ r c ch, r < dh → c < dw → ch < 4 → ¬ InC b0 b1 b2 b3 Xd0 Yd0 r c → q ((r * dw + c) * 4 + ch) = p ((r * dw + c) * 4 + ch))
    (hin : ∀ r c, r < dh → c < dw → InC b0 b1 b2 b3 Xd0 Yd0 r c → ∃ sr sc : Nat, (ks = 6 ∨ (p0 + (Xd0 + (c : Int)) - b0 - X0 = sc ∧ p1 + (Yd0 + (r : Int)) - b1 - Y0 = sr ∧ sc < sw ∧ sr < sh)) ∧ 
      NearV 0 (fun ch => q ((r * dw + c) * 4 + ch)) (fun i => cmp op (cl 0 (srcP 0 dw p r c) i) (cl ks (srcP ks sw s sr sc) i) (cl ks (srcP ks sw s sr sc) 3) 65535)) :
    Calls Tryz.prog 20 #[vI 0 Xd0 Yd0 Xd1 Yd1 Ad n cd, .slice Ag n cg, vR b0 b1 b2 b3, vP p0 p1, vP k0 k1, vI ks X0 Y0 X1 Y1 As n' cs, .pointer none, .int .i64 op] w fun e w' => e = .returned (.bool true) ∧ w.grownBy w' none := by
  have HD := hid (And.intro hd (And.intro hpb (And.intro c1 c2)))
  have HQ := hid (And.intro hq (And.intro hqb (And.intro c3 c4)))
  have HS := hid (And.intro hs (And.intro hsb (And.intro c5 c6)))
  have HGD := hid (And.intro gx (And.intro gy (And.intro gm (And.intro gw (And.intro gh gv)))))
  have HGS := hid hG
  have HPm := hid hpm
  have HBp := hid hbp
  have HOut := hid hout
  have HIn := hid hin
  have Hop := hid hop
  clear hd hq hs hpb hqb hsb c1 c2 c3 c4 c5 c6 gx gy gm gw gh gv hG hpm hbp hout hin hop
  go_enter Tryz.func20, Tryz.ntmps20
  go_upto_region 1 with fail
  obtain ⟨w1, hw1⟩ : ∃ w1 : World, w1 = (((((w.alloc (.cells #[.int .i64 0, .int .i64 Xd0, .int .i64 Yd0, .int .i64 Xd1, .int .i64 Yd1, .slice Ad n cd] 24)).alloc (.cells #[.int .i64 b0, .int .i64 b1, .int .i64 b2, .int .i64 b3] 28)).alloc (.cells #[.int .i64 p0, .int .i64 p1] 34)).alloc (.cells #[.int .i64 k0, .int .i64 k1] 34)).alloc (.cells #[.int .i64 ks, .int .i64 X0, .int .i64 Y0, .int .i64 X1, .int .i64 Y1, .slice As n' cs] 24)) := ⟨_, rfl⟩
  rw [← hw1]
  have hg1 : w.grownBy w1 none := by rw [hw1]; exact (by (repeat (first | exact gb_refl _ _ | refine gb_alloc ?_ _)))
  have cA : CellsAt w1 w.heap.size [.int .i64 0, .int .i64 Xd0, .int .i64 Yd0, .int .i64 Xd1, .int .i64 Yd1, .slice Ad n cd] := fun i v hv => by (rw [hw1]; rcases i with _ | _ | _ | _ | _ | _ | i <;> (first | (cases hv; go_simp; done) | (simp at hv; done)))
  have HcA := hid cA
  have cB : CellsAt w1 (w.heap.size + 1) [.int .i64 b0, .int .i64 b1, .int .i64 b2, .int .i64 b3] := fun i v hv => by (rw [hw1]; rcases i with _ | _ | _ | _ | i <;> (first | (cases hv; go_simp; done) | (simp at hv; done)))
  have HcB := hid cB
  have cP : CellsAt w1 (w.heap.size + 1 + 1) [.int .i64 p0, .int .i64 p1] := fun i v hv => by (rw [hw1]; rcases i with _ | _ | i <;> (first | (cases hv; go_simp; done) | (simp at hv; done)))
  have HcP := hid cP
  have cK : CellsAt w1 (w.heap.size + 1 + 1 + 1) [.int .i64 k0, .int .i64 k1] := fun i v hv => by (rw [hw1]; rcases i with _ | _ | i <;> (first | (cases hv; go_simp; done) | (simp at hv; done)))
  have HcK := hid cK
  have cS : CellsAt w1 (w.heap.size + 1 + 1 + 1 + 1) [.int .i64 ks, .int .i64 X0, .int .i64 Y0, .int .i64 X1, .int .i64 Y1, .slice As n' cs] := fun i v hv => by (rw [hw1]; rcases i with _ | _ | _ | _ | _ | _ | i <;> (first | (cases hv; go_simp; done) | (simp at hv; done)))
  have HcS := hid cS
  have HG1 := hid hg1
  clear hg1 cA cB cP cK cS hw1
  refine wp_region_inv (JV w1 [some (vI 0 Xd0 Yd0 Xd1 Yd1 Ad n cd), some (vI ks X0 Y0 X1 Y1 As n' cs), none, none, none, none] [(2, 4, [.int .i64 0, .int .i64 Xd0, .int .i64 Yd0, .int .i64 Xd1, .int .i64 Yd1, .slice Ad n cd]), (3, 5, [.int .i64 ks, .int .i64 X0, .int .i64 Y0, .int .i64 X1, .int .i64 Y1, .slice As n' cs])]) (fun _ => undef) (by kernel_rfl) (by kernel_rfl) [(0, 27), (1, 28), (2, 17), (3, 18)] (by kernel_rfl) (JV.start (by (repeat (first | exact gb_refl _ _ | assumption | refine gb_drew ?_ | refine gb_drewN ?_ _ | refine gb_alloc ?_ _ | refine gb_setCell ?_ (.inr (by simp <;> omega)) _)))) ?_ ?_
  · refine Steps'.cons [] (by kernel_rfl) ?_ (Steps'.cons [] (by kernel_rfl) ?_ (Steps'.cons [] (by kernel_rfl) ?_ (Steps'.cons [] (by kernel_rfl) ?_ (Steps'.cons [(0, 27), (2, 17)] (by kernel_rfl) ?_ (Steps'.cons [(1, 28), (3, 18)] (by kernel_rfl) ?_ (Steps'.nil))))))
    · intro l t w7 hJ hl hd bb hbb K hK
      have f0 := (HcA.out.kept0 hJ.gb) 0 _ rfl
      have f1 := (HcA.out.kept0 hJ.gb) 1 _ rfl
      have f2 := (HcA.out.kept0 hJ.gb) 2 _ rfl
      have f3 := (HcA.out.kept0 hJ.gb) 3 _ rfl
      have f4 := (HcA.out.kept0 hJ.gb) 4 _ rfl
      have f5 := (HcA.out.kept0 hJ.gb) 5 _ rfl
      simp only [puts, Act.put, List.setIfInBounds_toArray, List.set_cons_zero, List.set_cons_succ] at hbb
      subst hbb
      go_simp
      exact hK.out _ _ (hJ.pure (gb_refl _ _) rfl rfl)
    · intro l t w7 hJ hl hd bb hbb K hK
      have f0 := (HcS.out.kept0 hJ.gb) 0 _ rfl
      have f1 := (HcS.out.kept0 hJ.gb) 1 _ rfl
      have f2 := (HcS.out.kept0 hJ.gb) 2 _ rfl
      have f3 := (HcS.out.kept0 hJ.gb) 3 _ rfl
      have f4 := (HcS.out.kept0 hJ.gb) 4 _ rfl
      have f5 := (HcS.out.kept0 hJ.gb) 5 _ rfl
      simp only [puts, Act.put, List.setIfInBounds_toArray, List.set_cons_zero, List.set_cons_succ] at hbb
      subst hbb
      go_simp
      exact hK.out _ _ (hJ.pure (gb_refl _ _) rfl rfl)
    · intro l t w7 hJ hl hd bb hbb K hK
      simp only [puts, Act.put, List.setIfInBounds_toArray, List.set_cons_zero, List.set_cons_succ] at hbb
      subst hbb
      go_simp
      exact hK.out _ _ (hJ.alloc (vsOK2 rfl) (C := #[.int .i64 0, .int .i64 0, .int .i64 0, .int .i64 0, .int .i64 0, .slice none 0 0]) (s := 4) (vals := [.int .i64 0, .int .i64 Xd0, .int .i64 Yd0, .int .i64 Xd1, .int .i64 Yd1, .slice Ad n cd]) (by simp) rfl hl rfl rfl)
    · intro l t w7 hJ hl hd bb hbb K hK
      simp only [puts, Act.put, List.setIfInBounds_toArray, List.set_cons_zero, List.set_cons_succ] at hbb
      subst hbb
      go_simp
      exact hK.out _ _ (hJ.alloc (vsOK2 rfl) (C := #[.int .i64 0, .int .i64 0, .int .i64 0, .int .i64 0, .int .i64 0, .slice none 0 0]) (s := 5) (vals := [.int .i64 ks, .int .i64 X0, .int .i64 Y0, .int .i64 X1, .int .i64 Y1, .slice As n' cs]) (by simp) rfl hl rfl rfl)
    · intro l t w7 hJ hl hd bb hbb K hK
      obtain ⟨g, eg, -, -, hc⟩ := hJ.open (a := 2) (s := 4) (vals := [.int .i64 0, .int .i64 Xd0, .int .i64 Yd0, .int .i64 Xd1, .int .i64 Yd1, .slice Ad n cd]) (by simp) (hd 2 (by kernel_rfl))
      obtain ⟨⟨u0, c0⟩, z0⟩ := hc 0 (by simp)
      obtain ⟨⟨u1, c1⟩, z1⟩ := hc 1 (by simp)
      obtain ⟨⟨u2, c2⟩, z2⟩ := hc 2 (by simp)
      obtain ⟨⟨u3, c3⟩, z3⟩ := hc 3 (by simp)
      obtain ⟨⟨u4, c4⟩, z4⟩ := hc 4 (by simp)
      obtain ⟨⟨u5, c5⟩, z5⟩ := hc 5 (by simp)
      have e0 := hJ.val 0 _ rfl (hd 0 (by kernel_rfl))
      simp only [puts, Act.put, List.setIfInBounds_toArray, List.set_cons_zero, List.set_cons_succ] at hbb
      rw [e0] at hbb
      rw [eg] at hbb
      subst hbb
      go_simp
      obtain ⟨y1, y2, y3⟩ := st6 c0 c1 c2 c3 c4 c5
      exact hK.out undef _ (hJ.store (u := undef) (vsOK2 rfl) (a := 2) (vals := [.int .i64 0, .int .i64 Xd0, .int .i64 Yd0, .int .i64 Xd1, .int .i64 Yd1, .slice Ad n cd]) (by simp) rfl (hd 2 (by kernel_rfl)) eg y1 y2 y3)
    · intro l t w7 hJ hl hd bb hbb K hK
      obtain ⟨g, eg, -, -, hc⟩ := hJ.open (a := 3) (s := 5) (vals := [.int .i64 ks, .int .i64 X0, .int .i64 Y0, .int .i64 X1, .int .i64 Y1, .slice As n' cs]) (by simp) (hd 3 (by kernel_rfl))
      obtain ⟨⟨u0, c0⟩, z0⟩ := hc 0 (by simp)
      obtain ⟨⟨u1, c1⟩, z1⟩ := hc 1 (by simp)
      obtain ⟨⟨u2, c2⟩, z2⟩ := hc 2 (by simp)
      obtain ⟨⟨u3, c3⟩, z3⟩ := hc 3 (by simp)
      obtain ⟨⟨u4, c4⟩, z4⟩ := hc 4 (by simp)
      obtain ⟨⟨u5, c5⟩, z5⟩ := hc 5 (by simp)
      have e1 := hJ.val 1 _ rfl (hd 1 (by kernel_rfl))
      simp only [puts, Act.put, List.setIfInBounds_toArray, List.set_cons_zero, List.set_cons_succ] at hbb
      rw [e1] at hbb
      rw [eg] at hbb
      subst hbb
      go_simp
      obtain ⟨y1, y2, y3⟩ := st6 c0 c1 c2 c3 c4 c5
      exact hK.out undef _ (hJ.store (u := undef) (vsOK2 rfl) (a := 3) (vals := [.int .i64 ks, .int .i64 X0, .int .i64 Y0, .int .i64 X1, .int .i64 Y1, .slice As n' cs]) (by simp) rfl (hd 3 (by kernel_rfl)) eg y1 y2 y3)
  intro l t wc hJ hl
  obtain ⟨gD, e2, -, -, hgD⟩ := hJ.var (a := 2) (s := 4) (vals := [.int .i64 0, .int .i64 Xd0, .int .i64 Yd0, .int .i64 Xd1, .int .i64 Yd1, .slice Ad n cd]) (by simp) (hl 2 (by decide)) (hl 4 (by decide))
  obtain ⟨gS, e3, -, -, hgS⟩ := hJ.var (a := 3) (s := 5) (vals := [.int .i64 ks, .int .i64 X0, .int .i64 Y0, .int .i64 X1, .int .i64 Y1, .slice As n' cs]) (by simp) (hl 3 (by decide)) (hl 5 (by decide))
  have hgw := hJ.gb
  have HgD : Hid (CellsAt wc gD [.int .i64 0, .int .i64 Xd0, .int .i64 Yd0, .int .i64 Xd1, .int .i64 Yd1, .slice Ad n cd]) := hid hgD
  have HgS : Hid (CellsAt wc gS [.int .i64 ks, .int .i64 X0, .int .i64 Y0, .int .i64 X1, .int .i64 Y1, .slice As n' cs]) := hid hgS
  have HA := hid (HcA.out.kept0 hgw)
  have HB := hid (HcB.out.kept0 hgw)
  have HP := hid (HcP.out.kept0 hgw)
  have HKk := hid (HcK.out.kept0 hgw)
  have HG := hid (gb_trans HG1.out hgw)
  clear hJ hl hgD hgS hgw HcA HcB HcP HcK HcS HG1
  simp only [puts, Act.put, List.setIfInBounds_toArray, List.set_cons_zero, List.set_cons_succ]
  rw [e2, e3]
  clear e2 e3
  have a0 := HA.out 0 _ rfl
  have a2 := HA.out 2 _ rfl
  have a5 := HA.out 5 _ rfl
  go_wp2_with fail
  refine (size_c 0 (by omega) _).mono ?_
  rintro e wz ⟨he, rfl⟩
  have he : e = .returned (.int .i64 4) := he
  subst he
  go_wp2_with fail
  clear a0 a2 a5
  have a1 := HA.out 1 _ rfl
  have a2 := HA.out 2 _ rfl
  have a3 := HA.out 3 _ rfl
  have a4 := HA.out 4 _ rfl
  have zA := World.block_lt_of_cell? wc _ a1
  go_loopw [22, 21] (fun u v wr => ∃ (j i : Nat), j ≤ dh ∧ i = (j * dw) * 4 ∧ u = .int .i64 (Yd0 + (j : Int)) ∧ v = .int .i64 (i : Int) ∧ wc.grownBy wr none) (fun u _ _ => (Yd1 - intOf u).toNat)
  case atStart => exact ⟨0, 0, by omega, by omega, by first | rfl | (congr 1; omega), rfl, gb_refl _ _⟩
  case round =>
  obtain ⟨j, i, hj, hi, rfl, rfl, hgr⟩ := hrel
  obtain ⟨gx, gy, gm, gw, gh, v1, v2, v3, v4⟩ := HGD.out
  have HR := hid hgr
  have a1r := (gb_cell0 hgr (p := ⟨w.heap.size, 1, none⟩) zA).trans a1
  have a2r := (gb_cell0 hgr (p := ⟨w.heap.size, 2, none⟩) zA).trans a2
  have a3r := (gb_cell0 hgr (p := ⟨w.heap.size, 3, none⟩) zA).trans a3
  have a4r := (gb_cell0 hgr (p := ⟨w.heap.size, 4, none⟩) zA).trans a4
  have hib : i ≤ 200000 := by rw [hi]; have := Nat.mul_le_mul hj (Nat.le_refl dw); have := Nat.mul_le_mul gh gw; omega
  have Hi := hid hi
  clear hi hgr gm
  by_cases hlt : j < dh
  · have t1 : Yd0 + (j : Int) < Yd1 := by omega
    clear gx gy
    go_wp2_with fail
    obtain ⟨wo, hwo⟩ : ∃ wo : World, wo = wr := ⟨_, rfl⟩
    go_loopw [23, 21] (fun u v wr => ∃ (c i : Nat), c ≤ dw ∧ i = (j * dw + c) * 4 ∧ u = .int .i64 (Xd0 + (c : Int)) ∧ v = .int .i64 (i : Int) ∧ wc.grownBy wr none) (fun u _ _ => (Xd1 - intOf u).toNat)
    case atStart => exact ⟨0, i, by omega, Hi.out, by first | rfl | (congr 1; omega), rfl, HR.out⟩
    case round =>
    clear hwo wo a1r a2r a3r a4r HR
    obtain ⟨c, i', hc, hi', rfl, rfl, hgr⟩ := hrel
    have HR := hid hgr
    have a1r := (gb_cell0 hgr (p := ⟨w.heap.size, 1, none⟩) zA).trans a1
    have a2r := (gb_cell0 hgr (p := ⟨w.heap.size, 2, none⟩) zA).trans a2
    have a3r := (gb_cell0 hgr (p := ⟨w.heap.size, 3, none⟩) zA).trans a3
    have a4r := (gb_cell0 hgr (p := ⟨w.heap.size, 4, none⟩) zA).trans a4
    have HBr := hid (HB.out.kept0 hgr)
    have HAr := hid (HA.out.kept0 hgr)
    obtain ⟨gx, gy, gm, gw, gh, v1, v2, v3, v4⟩ := HGD.out
    have hib2 : i' ≤ 200000 := by rw [hi']; have := Nat.mul_le_mul hj (Nat.le_refl dw); have := Nat.mul_le_mul gh gw; omega
    have Hi2 := hid hi'
    by_cases hlc : c < dw
    · have t2 : Xd0 + (c : Int) < Xd1 := by omega
      have hfit : i' + 4 ≤ n := by
        have h1 := row_fits (wd := dw) (k := 4) (r := j) (m := c * 4 + 4) hlt (by omega)
        have h2 : (j * dw + c) * 4 = j * (dw * 4) + c * 4 := by rw [Nat.add_mul, Nat.mul_assoc]
        rw [hi', h2, gm]; omega
      obtain ⟨⟨gb_, go_, gp_⟩, hAg, hgl, hgc⟩ := (HQ.out.1.kept0 (gb_trans HG.out hgr)) (by omega)
      subst hAg
      obtain ⟨cq1, cq2⟩ := HQ.out.2.2
      rcases hga : (⟨gb_, go_, gp_⟩ : Addr).add i' with ⟨ab, ao, ap⟩
      have Hcell : Hid (∀ ch, ch < 4 → wr.cell? ((⟨ab, ao, ap⟩ : Addr).add ch) = some (.int .u8 (q (i' + ch)))) := hid (fun ch hch => by rw [← hga, add_add]; exact hgc _ (by omega))
      have s1 : IntKind.i64.wrap ((i' : Int) + 4) = (i' : Int) + 4 := IntWalk.i64_in _ (by omega)
      have s2 : (0 : Int) ≤ (i' : Int) + 4 := by omega
      have s3 : (i' : Int) + 4 ≤ (cg : Int) := by omega
      have s4 : ((i' : Int) + 4).toNat = i' + 4 := by omega
      have s6 : ¬ (cg = i') := by omega
      have s7 : (i' : Int) ≤ (i' : Int) + 4 := by omega
      have HGX := hid (And.intro gx hlc)
      clear hi' hgr gm gy gx hgc hgl
      have HA2 := HAr.out
      have x0 := HBr.out 0 _ rfl
      have x1 := HBr.out 1 _ rfl
      have x2 := HBr.out 2 _ rfl
      have x3 := HBr.out 3 _ rfl
      clear HA2
      by_cases hinb : InC b0 b1 b2 b3 Xd0 Yd0 j c
      · go_wp2_with fail
        refine (shas_y b0 b1 b2 b3 _ _ _ hinb.1 hinb.2.1 hinb.2.2.1 hinb.2.2.2).mono ?_
        rintro e w5 ⟨rfl, hg5⟩
        have HR5 := hid (gb_trans HR.out hg5)
        have HG5 := hid hg5
        obtain ⟨sr, sc, hsp, hnear⟩ := HIn.out j c hlt hlc hinb
        obtain ⟨dd, hdd⟩ : ∃ dd : Nat → Int, cl 0 (srcP 0 dw p j c) = dd := ⟨_, rfl⟩
        obtain ⟨ss, hss⟩ : ∃ ss : Nat → Int, cl ks (srcP ks sw s sr sc) = ss := ⟨_, rfl⟩
        rw [hdd, hss] at hnear
        have bsr : ∀ {kk ww : Nat} {z : Nat → Int} (h : By z) (r c : Nat), By (srcP kk ww z r c) := fun h r c => by unfold srcP; split; exact h; exact by_toP h _ _ _ _
        have fd : ∀ i, fu (dd i) := fun i => by rw [← hdd]; exact fu_cl (bsr HD.out.2.1 _ _) i
        have fs : ∀ i, fu (ss i) := fun i => by rw [← hss]; exact fu_cl (bsr HS.out.2.1 _ _) i
        have fp : ∀ i, i < 4 → ss i ≤ ss 3 := fun i hi => by rw [← hss]; exact pm_le (HPm.out _ _) hi
        have fm : fu (65535 : Int) := ⟨by decide, by decide⟩
        obtain ⟨E0, hE0⟩ : ∃ E, cmp op (dd 0) (ss 0) (ss 3) (65535) = E := ⟨_, rfl⟩
        have bE0 : eu E0 := by rw [← hE0]; exact eu_cmp (fd 0) (fs 0) (fs 3) fm (fp 0 (by omega))
        obtain ⟨E1, hE1⟩ : ∃ E, cmp op (dd 1) (ss 1) (ss 3) (65535) = E := ⟨_, rfl⟩
        have bE1 : eu E1 := by rw [← hE1]; exact eu_cmp (fd 1) (fs 1) (fs 3) fm (fp 1 (by omega))
        obtain ⟨E2, hE2⟩ : ∃ E, cmp op (dd 2) (ss 2) (ss 3) (65535) = E := ⟨_, rfl⟩
        have bE2 : eu E2 := by rw [← hE2]; exact eu_cmp (fd 2) (fs 2) (fs 3) fm (fp 2 (by omega))
        obtain ⟨E3, hE3⟩ : ∃ E, cmp op (dd 3) (ss 3) (ss 3) (65535) = E := ⟨_, rfl⟩
        have bE3 : eu E3 := by rw [← hE3]; exact eu_cmp (fd 3) (fs 3) (fs 3) fm (fp 3 (by omega))
        have hN : NearV 0 (fun ch => q (i' + ch)) (fun i => match i with | 0 => E0 | 1 => E1 | 2 => E2 | _ => E3) := by
          rw [Hi2.out, ← hE0, ← hE1, ← hE2, ← hE3]
          intro i hi
          have hi' : i = 0 ∨ i = 1 ∨ i = 2 ∨ i = 3 := by omega
          rcases hi' with rfl | rfl | rfl | rfl
          · exact hnear 0 hi
          · exact hnear 1 hi
          · exact hnear 2 hi
          · exact hnear 3 hi
        have HN := hid (And.intro hN (And.intro bE0 (And.intro bE1 (And.intro bE2 bE3))))
        have HC := hid (And.intro fd (And.intro fs (And.intro fm (And.intro hE0 (And.intro hE1 (And.intro hE2 hE3))))))
        have HP2 := hid (And.intro hsp (And.intro hdd hss))
        have HI2 := hid hinb
        have hb9 : -200 ≤ Xd0 + (c : Int) ∧ Xd0 + (c : Int) ≤ 200 ∧ -200 ≤ Yd0 + (j : Int) ∧ Yd0 + (j : Int) ≤ 200 := by omega
        clear hN bE0 bE1 bE2 bE3 fd fs fp fm hE0 hE1 hE2 hE3 hsp hdd hss hnear bsr hinb
        clear a1r a2r a3r a4r x0 x1 x2 x3 s1 s2 s3 s4 s6 s7 hg5
        go_wp2_with fail
        refine wp_region_inv (JV w5 [some (vI 0 Xd0 Yd0 Xd1 Yd1 Ad n cd), some ((.int .i64 (Xd0 + (c : Int)))), some ((.int .i64 (Yd0 + (j : Int)))), some (v4i (dd 0) (dd 1) (dd 2) (dd 3)), some (vI ks X0 Y0 X1 Y1 As n' cs), some (.pointer (some ⟨(w.heap.size + 1 + 1), 0, none⟩)), some (.int .i64 p0), some ((.int .i64 (Xd0 + (c : Int)))), some (.int .i64 (p0 + (Xd0 + (c : Int)))), some (.pointer (some ⟨(w.heap.size + 1), 0, none⟩)), some (.int .i64 b0), some (.int .i64 (p0 + (Xd0 + (c : Int)) - b0)), some (.pointer (some ⟨(w.heap.size + 1 + 1), 1, none⟩)), some (.int .i64 p1), some ((.int .i64 (Yd0 + (j : Int)))), some (.int .i64 (p1 + (Yd0 + (j : Int)))), some (.pointer (some ⟨(w.heap.size + 1), 1, none⟩)), some (.int .i64 b1), some (.int .i64 (p1 + (Yd0 + (j : Int)) - b1)), some (v4i (ss 0) (ss 1) (ss 2) (ss 3)), some (.int .i64 (65535)), some (.int .i64 op), some (v4i E0 E1 E2 E3), none, none] [(23, 24, [.int .i64 E0, .int .i64 E1, .int .i64 E2, .int .i64 E3])]) (fun _ => undef) (by kernel_rfl) (by kernel_rfl) [(0, 103), (1, 104), (2, 105), (3, 106), (4, 107), (5, 108), (6, 109), (7, 110), (8, 111), (9, 112), (10, 113), (11, 114), (12, 115), (13, 116), (14, 117), (15, 118), (16, 119), (17, 120), (18, 121), (19, 122), (20, 123), (21, 124), (22, 125), (23, 26)] (by kernel_rfl) (JV.start (by (repeat (first | exact gb_refl _ _ | assumption | refine gb_drew ?_ | refine gb_drewN ?_ _ | refine gb_alloc ?_ _ | refine gb_setCell ?_ (.inr (by simp <;> omega)) _)))) ?_ ?_
        · refine Steps'.cons [] (by kernel_rfl) ?_ (Steps'.cons [] (by kernel_rfl) ?_ (Steps'.cons [] (by kernel_rfl) ?_ (Steps'.cons [(0, 103), (1, 104), (2, 105)] (by kernel_rfl) ?_ (Steps'.cons [] (by kernel_rfl) ?_ (Steps'.cons [] (by kernel_rfl) ?_ (Steps'.cons [(5, 108)] (by kernel_rfl) ?_ (Steps'.cons [] (by kernel_rfl) ?_ (Steps'.cons [(6, 109), (7, 110)] (by kernel_rfl) ?_ (Steps'.cons [] (by kernel_rfl) ?_ (Steps'.cons [(9, 112)] (by kernel_rfl) ?_ (Steps'.cons [(8, 111), (10, 113)] (by kernel_rfl) ?_ (Steps'.cons [] (by kernel_rfl) ?_ (Steps'.cons [(12, 115)] (by kernel_rfl) ?_ (Steps'.cons [] (by kernel_rfl) ?_ (Steps'.cons [(13, 116), (14, 117)] (by kernel_rfl) ?_ (Steps'.cons [] (by kernel_rfl) ?_ (Steps'.cons [(16, 119)] (by kernel_rfl) ?_ (Steps'.cons [(15, 118), (17, 120)] (by kernel_rfl) ?_ (Steps'.cons [(4, 107), (11, 114), (18, 121)] (by kernel_rfl) ?_ (Steps'.cons [] (by kernel_rfl) ?_ (Steps'.cons [] (by kernel_rfl) ?_ (Steps'.cons [(3, 106), (19, 122), (20, 123), (21, 124)] (by kernel_rfl) ?_ (Steps'.cons [] (by kernel_rfl) ?_ (Steps'.cons [(22, 125), (23, 26)] (by kernel_rfl) ?_ (Steps'.nil)))))))))))))))))))))))))
          · intro l t w7 hJ hl hd bb hbb K hK
            have f0 := (HgD.out.kept0 (gb_trans HR5.out hJ.gb)) 0 _ rfl
            have f1 := (HgD.out.kept0 (gb_trans HR5.out hJ.gb)) 1 _ rfl
            have f2 := (HgD.out.kept0 (gb_trans HR5.out hJ.gb)) 2 _ rfl
            have f3 := (HgD.out.kept0 (gb_trans HR5.out hJ.gb)) 3 _ rfl
            have f4 := (HgD.out.kept0 (gb_trans HR5.out hJ.gb)) 4 _ rfl
            have f5 := (HgD.out.kept0 (gb_trans HR5.out hJ.gb)) 5 _ rfl
            simp only [puts, Act.put, List.setIfInBounds_toArray, List.set_cons_zero, List.set_cons_succ] at hbb
            subst hbb
            go_simp
            exact hK.out _ _ (hJ.pure (gb_refl _ _) rfl rfl)
          · intro l t w7 hJ hl hd bb hbb K hK
            simp only [puts, Act.put, List.setIfInBounds_toArray, List.set_cons_zero, List.set_cons_succ] at hbb
            subst hbb
            go_simp
            exact hK.out _ _ (hJ.pure (gb_refl _ _) rfl rfl)
          · intro l t w7 hJ hl hd bb hbb K hK
            simp only [puts, Act.put, List.setIfInBounds_toArray, List.set_cons_zero, List.set_cons_succ] at hbb
            subst hbb
            go_simp
            exact hK.out _ _ (hJ.pure (gb_refl _ _) rfl rfl)
          · intro l t w7 hJ hl hd bb hbb K hK
            have e0 := hJ.val 0 _ rfl (hd 0 (by kernel_rfl))
            have e1 := hJ.val 1 _ rfl (hd 1 (by kernel_rfl))
            have e2 := hJ.val 2 _ rfl (hd 2 (by kernel_rfl))
            simp only [puts, Act.put, List.setIfInBounds_toArray, List.set_cons_zero, List.set_cons_succ] at hbb
            rw [e0] at hbb
            rw [e1] at hbb
            rw [e2] at hbb
            subst hbb
            go_simp
            refine (at_c (k := 0) (sh := dh) (sw := dw) (r := j) (c := c) _ (HD.out.1.kept0 (gb_trans HG.out (gb_trans HR5.out hJ.gb))) HD.out.2.1 HD.out.2.2.1 HD.out.2.2.2 (.inr ⟨by decide, by have := HGD.out.1; omega, HGD.out.2.2.1, HGD.out.2.2.2.1, HGD.out.2.2.2.2.1, by omega, by omega, by omega, by omega⟩) (.inr ⟨by omega, by omega, hlc, hlt⟩) HP2.out.2.1).mono ?_
            rintro e w8 ⟨rfl, hg⟩
            exact hK.out _ _ (hJ.pure hg rfl rfl)
          · intro l t w7 hJ hl hd bb hbb K hK
            have f0 := (HgS.out.kept0 (gb_trans HR5.out hJ.gb)) 0 _ rfl
            have f1 := (HgS.out.kept0 (gb_trans HR5.out hJ.gb)) 1 _ rfl
            have f2 := (HgS.out.kept0 (gb_trans HR5.out hJ.gb)) 2 _ rfl
            have f3 := (HgS.out.kept0 (gb_trans HR5.out hJ.gb)) 3 _ rfl
            have f4 := (HgS.out.kept0 (gb_trans HR5.out hJ.gb)) 4 _ rfl
            have f5 := (HgS.out.kept0 (gb_trans HR5.out hJ.gb)) 5 _ rfl
            simp only [puts, Act.put, List.setIfInBounds_toArray, List.set_cons_zero, List.set_cons_succ] at hbb
            subst hbb
            go_simp
            exact hK.out _ _ (hJ.pure (gb_refl _ _) rfl rfl)
          · intro l t w7 hJ hl hd bb hbb K hK
            simp only [puts, Act.put, List.setIfInBounds_toArray, List.set_cons_zero, List.set_cons_succ] at hbb
            subst hbb
            go_simp
            exact hK.out _ _ (hJ.pure (gb_refl _ _) rfl rfl)
          · intro l t w7 hJ hl hd bb hbb K hK
            have f0 := (HP.out.kept0 (gb_trans HR5.out hJ.gb)) 0 _ rfl
            have f1 := (HP.out.kept0 (gb_trans HR5.out hJ.gb)) 1 _ rfl
            have e5 := hJ.val 5 _ rfl (hd 5 (by kernel_rfl))
            simp only [puts, Act.put, List.setIfInBounds_toArray, List.set_cons_zero, List.set_cons_succ] at hbb
            rw [e5] at hbb
            subst hbb
            go_simp
            exact hK.out _ _ (hJ.pure (gb_refl _ _) rfl rfl)
          · intro l t w7 hJ hl hd bb hbb K hK
            simp only [puts, Act.put, List.setIfInBounds_toArray, List.set_cons_zero, List.set_cons_succ] at hbb
            subst hbb
            go_simp
            exact hK.out _ _ (hJ.pure (gb_refl _ _) rfl rfl)
          · intro l t w7 hJ hl hd bb hbb K hK
            have bb1 := HBp.out
            have wq : IntKind.i64.wrap (p0 + (Xd0 + (c : Int))) = p0 + (Xd0 + (c : Int)) := IntWalk.i64_in _ (by omega)
            have e6 := hJ.val 6 _ rfl (hd 6 (by kernel_rfl))
            have e7 := hJ.val 7 _ rfl (hd 7 (by kernel_rfl))
            simp only [puts, Act.put, List.setIfInBounds_toArray, List.set_cons_zero, List.set_cons_succ] at hbb
            rw [e6] at hbb
            rw [e7] at hbb
            subst hbb
            go_simp
            exact hK.out _ _ (hJ.pure (gb_refl _ _) rfl rfl)
          · intro l t w7 hJ hl hd bb hbb K hK
            simp only [puts, Act.put, List.setIfInBounds_toArray, List.set_cons_zero, List.set_cons_succ] at hbb
            subst hbb
            go_simp
            exact hK.out _ _ (hJ.pure (gb_refl _ _) rfl rfl)
          · intro l t w7 hJ hl hd bb hbb K hK
            have f0 := (HB.out.kept0 (gb_trans HR5.out hJ.gb)) 0 _ rfl
            have f1 := (HB.out.kept0 (gb_trans HR5.out hJ.gb)) 1 _ rfl
            have f2 := (HB.out.kept0 (gb_trans HR5.out hJ.gb)) 2 _ rfl
            have f3 := (HB.out.kept0 (gb_trans HR5.out hJ.gb)) 3 _ rfl
            have e9 := hJ.val 9 _ rfl (hd 9 (by kernel_rfl))
            simp only [puts, Act.put, List.setIfInBounds_toArray, List.set_cons_zero, List.set_cons_succ] at hbb
            rw [e9] at hbb
            subst hbb
            go_simp
            exact hK.out _ _ (hJ.pure (gb_refl _ _) rfl rfl)
          · intro l t w7 hJ hl hd bb hbb K hK
            have bb1 := HBp.out
            have wq : IntKind.i64.wrap (p0 + (Xd0 + (c : Int)) - b0) = p0 + (Xd0 + (c : Int)) - b0 := IntWalk.i64_in _ (by omega)
            have e8 := hJ.val 8 _ rfl (hd 8 (by kernel_rfl))
            have e10 := hJ.val 10 _ rfl (hd 10 (by kernel_rfl))
            simp only [puts, Act.put, List.setIfInBounds_toArray, List.set_cons_zero, List.set_cons_succ] at hbb
            rw [e8] at hbb
            rw [e10] at hbb
            subst hbb
            go_simp
            exact hK.out _ _ (hJ.pure (gb_refl _ _) rfl rfl)
          · intro l t w7 hJ hl hd bb hbb K hK
            simp only [puts, Act.put, List.setIfInBounds_toArray, List.set_cons_zero, List.set_cons_succ] at hbb
            subst hbb
            go_simp
            exact hK.out _ _ (hJ.pure (gb_refl _ _) rfl rfl)
          · intro l t w7 hJ hl hd bb hbb K hK
            have f0 := (HP.out.kept0 (gb_trans HR5.out hJ.gb)) 0 _ rfl
            have f1 := (HP.out.kept0 (gb_trans HR5.out hJ.gb)) 1 _ rfl
            have e12 := hJ.val 12 _ rfl (hd 12 (by kernel_rfl))
            simp only [puts, Act.put, List.setIfInBounds_toArray, List.set_cons_zero, List.set_cons_succ] at hbb
            rw [e12] at hbb
            subst hbb
            go_simp
            exact hK.out _ _ (hJ.pure (gb_refl _ _) rfl rfl)
          · intro l t w7 hJ hl hd bb hbb K hK
            simp only [puts, Act.put, List.setIfInBounds_toArray, List.set_cons_zero, List.set_cons_succ] at hbb
            subst hbb
            go_simp
            exact hK.out _ _ (hJ.pure (gb_refl _ _) rfl rfl)
          · intro l t w7 hJ hl hd bb hbb K hK
            have bb1 := HBp.out
            have wq : IntKind.i64.wrap (p1 + (Yd0 + (j : Int))) = p1 + (Yd0 + (j : Int)) := IntWalk.i64_in _ (by omega)
            have e13 := hJ.val 13 _ rfl (hd 13 (by kernel_rfl))
            have e14 := hJ.val 14 _ rfl (hd 14 (by kernel_rfl))
            simp only [puts, Act.put, List.setIfInBounds_toArray, List.set_cons_zero, List.set_cons_succ] at hbb
            rw [e13] at hbb
            rw [e14] at hbb
            subst hbb
            go_simp
            exact hK.out _ _ (hJ.pure (gb_refl _ _) rfl rfl)
          · intro l t w7 hJ hl hd bb hbb K hK
            simp only [puts, Act.put, List.setIfInBounds_toArray, List.set_cons_zero, List.set_cons_succ] at hbb
            subst hbb
            go_simp
            exact hK.out _ _ (hJ.pure (gb_refl _ _) rfl rfl)
          · intro l t w7 hJ hl hd bb hbb K hK
            have f0 := (HB.out.kept0 (gb_trans HR5.out hJ.gb)) 0 _ rfl
            have f1 := (HB.out.kept0 (gb_trans HR5.out hJ.gb)) 1 _ rfl
            have f2 := (HB.out.kept0 (gb_trans HR5.out hJ.gb)) 2 _ rfl
            have f3 := (HB.out.kept0 (gb_trans HR5.out hJ.gb)) 3 _ rfl
            have e16 := hJ.val 16 _ rfl (hd 16 (by kernel_rfl))
            simp only [puts, Act.put, List.setIfInBounds_toArray, List.set_cons_zero, List.set_cons_succ] at hbb
            rw [e16] at hbb
            subst hbb
            go_simp
            exact hK.out _ _ (hJ.pure (gb_refl _ _) rfl rfl)
          · intro l t w7 hJ hl hd bb hbb K hK
            have bb1 := HBp.out
            have wq : IntKind.i64.wrap (p1 + (Yd0 + (j : Int)) - b1) = p1 + (Yd0 + (j : Int)) - b1 := IntWalk.i64_in _ (by omega)
            have e15 := hJ.val 15 _ rfl (hd 15 (by kernel_rfl))
            have e17 := hJ.val 17 _ rfl (hd 17 (by kernel_rfl))
            simp only [puts, Act.put, List.setIfInBounds_toArray, List.set_cons_zero, List.set_cons_succ] at hbb
            rw [e15] at hbb
            rw [e17] at hbb
            subst hbb
            go_simp
            exact hK.out _ _ (hJ.pure (gb_refl _ _) rfl rfl)
          · intro l t w7 hJ hl hd bb hbb K hK
            have e4 := hJ.val 4 _ rfl (hd 4 (by kernel_rfl))
            have e11 := hJ.val 11 _ rfl (hd 11 (by kernel_rfl))
            have e18 := hJ.val 18 _ rfl (hd 18 (by kernel_rfl))
            simp only [puts, Act.put, List.setIfInBounds_toArray, List.set_cons_zero, List.set_cons_succ] at hbb
            rw [e4] at hbb
            rw [e11] at hbb
            rw [e18] at hbb
            subst hbb
            go_simp
            refine (at_c _ (HS.out.1.kept0 (gb_trans HG.out (gb_trans HR5.out hJ.gb))) HS.out.2.1 HS.out.2.2.1 HS.out.2.2.2 HGS.out HP2.out.1 HP2.out.2.2).mono ?_
            rintro e w8 ⟨rfl, hg⟩
            exact hK.out _ _ (hJ.pure hg rfl rfl)
          · intro l t w7 hJ hl hd bb hbb K hK
            simp only [puts, Act.put, List.setIfInBounds_toArray, List.set_cons_zero, List.set_cons_succ] at hbb
            subst hbb
            go_simp
            exact hK.out _ _ (hJ.pure (gb_refl _ _) rfl rfl)
          · intro l t w7 hJ hl hd bb hbb K hK
            simp only [puts, Act.put, List.setIfInBounds_toArray, List.set_cons_zero, List.set_cons_succ] at hbb
            subst hbb
            go_simp
            exact hK.out _ _ (hJ.pure (gb_refl _ _) rfl rfl)
          · intro l t w7 hJ hl hd bb hbb K hK
            have e3 := hJ.val 3 _ rfl (hd 3 (by kernel_rfl))
            have e19 := hJ.val 19 _ rfl (hd 19 (by kernel_rfl))
            have e20 := hJ.val 20 _ rfl (hd 20 (by kernel_rfl))
            have e21 := hJ.val 21 _ rfl (hd 21 (by kernel_rfl))
            simp only [puts, Act.put, List.setIfInBounds_toArray, List.set_cons_zero, List.set_cons_succ] at hbb
            rw [e3] at hbb
            rw [e19] at hbb
            rw [e20] at hbb
            rw [e21] at hbb
            subst hbb
            go_simp
            refine (comp_c _ Hop.out (HC.out.1 0) (HC.out.1 1) (HC.out.1 2) (HC.out.1 3) (HC.out.2.1 0) (HC.out.2.1 1) (HC.out.2.1 2) (HC.out.2.1 3) HC.out.2.2.1).mono ?_
            rintro e w8 ⟨rfl, hg⟩
            rw [HC.out.2.2.2.1, HC.out.2.2.2.2.1, HC.out.2.2.2.2.2.1, HC.out.2.2.2.2.2.2]
            exact hK.out _ _ (hJ.pure hg rfl rfl)
          · intro l t w7 hJ hl hd bb hbb K hK
            simp only [puts, Act.put, List.setIfInBounds_toArray, List.set_cons_zero, List.set_cons_succ] at hbb
            subst hbb
            go_simp
            exact hK.out _ _ (hJ.alloc (vsOK1 rfl) (C := #[.int .i64 0, .int .i64 0, .int .i64 0, .int .i64 0]) (s := 24) (vals := [.int .i64 E0, .int .i64 E1, .int .i64 E2, .int .i64 E3]) (by simp) rfl hl rfl rfl)
          · intro l t w7 hJ hl hd bb hbb K hK
            obtain ⟨g, eg, -, -, hc⟩ := hJ.open (a := 23) (s := 24) (vals := [.int .i64 E0, .int .i64 E1, .int .i64 E2, .int .i64 E3]) (by simp) (hd 23 (by kernel_rfl))
            obtain ⟨⟨u0, c0⟩, z0⟩ := hc 0 (by simp)
            obtain ⟨⟨u1, c1⟩, z1⟩ := hc 1 (by simp)
            obtain ⟨⟨u2, c2⟩, z2⟩ := hc 2 (by simp)
            obtain ⟨⟨u3, c3⟩, z3⟩ := hc 3 (by simp)
            have e22 := hJ.val 22 _ rfl (hd 22 (by kernel_rfl))
            simp only [puts, Act.put, List.setIfInBounds_toArray, List.set_cons_zero, List.set_cons_succ] at hbb
            rw [e22] at hbb
            rw [eg] at hbb
            subst hbb
            go_simp
            obtain ⟨y1, y2, y3⟩ := st4 c0 c1 c2 c3
            exact hK.out undef _ (hJ.store (u := undef) (vsOK1 rfl) (a := 23) (vals := [.int .i64 E0, .int .i64 E1, .int .i64 E2, .int .i64 E3]) (by simp) rfl (hd 23 (by kernel_rfl)) eg y1 y2 y3)
        intro l t w7 hJ hl
        obtain ⟨gE, e23, -, -, hgE⟩ := hJ.var (a := 23) (s := 24) (vals := [.int .i64 E0, .int .i64 E1, .int .i64 E2, .int .i64 E3]) (by simp) (hl 23 (by decide)) (hl 24 (by decide))
        have HR7 := hid (gb_trans HR5.out hJ.gb)
        have y0 := hgE 0 _ rfl
        have y1 := hgE 1 _ rfl
        have y2 := hgE 2 _ rfl
        have y3 := hgE 3 _ rfl
        have hd0 := (HA.out.kept0 HR7.out) 0 _ rfl
        have HC7 : Hid (∀ ch, ch < 4 → w7.cell? ((⟨ab, ao, ap⟩ : Addr).add ch) = some (.int .u8 (q (i' + ch)))) := hid (fun ch hch => (gb_cell0 (gb_trans HG5.out hJ.gb) (World.block_lt_of_cell? wr _ (Hcell.out ch hch))).trans (Hcell.out ch hch))
        clear hJ hl hgE
        simp only [puts, Act.put, List.setIfInBounds_toArray, List.set_cons_zero, List.set_cons_succ]
        rw [e23]
        clear e23
        go_wp2_with fail
        refine (near_0 _ (fun i => HQ.out.2.1 _) HC7.out HN.out.2.1 HN.out.2.2.1 HN.out.2.2.2.1 HN.out.2.2.2.2 HN.out.1).mono ?_
        rintro e w8 ⟨rfl, hg8⟩
        have HR8 := hid (gb_trans HR7.out hg8)
        clear hg8 y0 y1 y2 y3 hd0
        go_wp2_with fail
        exact ⟨⟨c + 1, i' + 4, by omega, by have h := Hi2.out; rw [← Nat.add_assoc, Nat.add_mul (j * dw + c) 1]; omega, by first | rfl | (congr 1; push_cast; omega), by first | rfl | (congr 1; push_cast; omega), (by (repeat (first | exact gb_refl _ _ | assumption | refine gb_drew ?_ | refine gb_drewN ?_ _ | refine gb_alloc ?_ _ | refine gb_setCell ?_ (.inr (by simp <;> omega)) _)))⟩, by have := HGX.out; simp [intOf]; omega⟩
      · go_wp2_with fail
        refine (shas_n b0 b1 b2 b3 _ _ _ hinb).mono ?_
        rintro e w5 ⟨rfl, hg5⟩
        have HR5 := hid (gb_trans HR.out hg5)
        obtain ⟨⟨db_, do_, dp_⟩, hAd, hdl, hdc⟩ := (HD.out.1.kept0 (gb_trans HG.out HR5.out)) (by omega)
        subst hAd
        obtain ⟨cd1, cd2⟩ := HD.out.2.2
        rcases hda : (⟨db_, do_, dp_⟩ : Addr).add i' with ⟨eb, eo, ep⟩
        obtain ⟨Z, hZ⟩ : ∃ Z, strOfNums (byL 4 (fun ch => q (i' + ch))) = Z := ⟨_, rfl⟩
        have v1z : ∀ k, (convert 22 9 (.slice (some ⟨ab, ao, ap⟩) 4 (cg - i'))).run Tryz.prog (w5.drewN k) = .ok (.string Z) (w5.drewN k) := by
          rw [← hZ]
          exact convNn _ (fun ch hch => (gb_cell0 hg5 (World.block_lt_of_cell? wr _ (Hcell.out ch hch))).trans (Hcell.out ch hch))
        have v2z : ∀ k, (convert 22 9 (.slice (some ⟨eb, eo, ep⟩) 4 (cd - i'))).run Tryz.prog (w5.drewN k) = .ok (.string Z) (w5.drewN k) := by
          rw [← hZ, byL_congr (g := fun ch => p (i' + ch)) (fun ch hch => by rw [Hi2.out]; exact HOut.out j c ch hlt hlc hch hinb)]
          exact convNn _ (fun ch hch => by rw [← hda, add_add]; exact hdc _ (by omega))
        have r3 : (i' : Int) + 4 ≤ (cd : Int) := by omega
        have r6 : ¬ (cd = i') := by omega
        have d5 := (HA.out.kept0 HR5.out) 5 _ rfl
        clear hdc hdl hZ hinb a1r a2r a3r a4r x0 x1 x2 x3
        go_wp2_with fail
        go_quiet (fail)
        go_wp2_with fail
        exact ⟨⟨c + 1, i' + 4, by omega, by have h := Hi2.out; rw [← Nat.add_assoc, Nat.add_mul (j * dw + c) 1]; omega, by first | rfl | (congr 1; push_cast; omega), by first | rfl | (congr 1; push_cast; omega), gb_drewN HR5.out _⟩, by have := HGX.out; simp [intOf]; omega⟩
    · have t2 : ¬ (Xd0 + (c : Int) < Xd1) := by omega
      have hcd : c = dw := by omega
      have HGY := hid gy
      clear hi' hgr gm gy gx
      go_wp2_with fail
      exact ⟨⟨j + 1, i', by omega, by have h := Hi2.out; rw [hcd] at h; rw [h, Nat.add_mul j 1 dw, Nat.one_mul], by first | rfl | (congr 1; push_cast; omega), rfl, HR.out⟩, by have := HGY.out; simp [intOf]; omega⟩
  · have t1 : ¬ (Yd0 + (j : Int) < Yd1) := by omega
    go_wp2_with fail
    go_ret
    exact ⟨rfl, gb_trans HG.out HR.out⟩
end Go.Proofs.YtgjpohmjkhgpfaaGreat

namespace Go.Proofs.YtgjpohmjkhgpfaaGreat
open Go.RowKit

theorem near_congr {k : Nat} (hk : k = 0 ∨ k = 2 ∨ k = 4) {p p' : Nat → Int} {E : Nat → Int} (h : ∀ ch, ch < sz k → p ch = p' ch) (hn : NearV k p' E) : NearV k p E := by
  rcases hk with rfl | rfl | rfl
  · intro i hi
    have h' : p i = p' i := h i hi
    rw [h']; exact hn i hi
  · have h' : p 0 = p' 0 := h 0 (by decide)
    show _ ∧ _
    rw [h']; exact hn
  · intro i hi
    have h1 : p (2 * i) = p' (2 * i) := h _ (show 2 * i < 8 by omega)
    have h2 : p (2 * i + 1) = p' (2 * i + 1) := h _ (show 2 * i + 1 < 8 by omega)
    rw [h1, h2]; exact hn i hi
/-- a byte of a pixel that was not drawn -/
theorem res_ofk {k dw r c ch : Nat} {I : Nat → Nat → Prop} {F : Nat → Nat → Nat → Int} {p : Nat → Int} (hc : c < dw) (hch : ch < sz k) (hI : ¬ I r c) : resB k dw I F p ((r * dw + c) * sz k + ch) = p ((r * dw + c) * sz k + ch) := by
  have h0 : (r * dw + c) * sz k + ch = r * (dw * sz k) + (c * sz k + ch) := by rw [Nat.add_mul, Nat.mul_assoc]; omega
  have hm := pix_col (k := sz k) hc hch
  have e1 : ((r * dw + c) * sz k + ch) / (dw * sz k) = r := by rw [h0, Nat.mul_comm r, Nat.mul_add_div (by omega), Nat.div_eq_of_lt hm, Nat.add_zero]
  have e2 : ((r * dw + c) * sz k + ch) % (dw * sz k) = c * sz k + ch := by rw [h0, Nat.mul_comm r, Nat.mul_add_mod, Nat.mod_eq_of_lt hm]
  have e3 : (c * sz k + ch) / sz k = c := by rw [Nat.mul_comm c, Nat.mul_add_div (by omega), Nat.div_eq_of_lt hch, Nat.add_zero]
  have e4 : (c * sz k + ch) % sz k = ch := by rw [Nat.mul_comm c, Nat.mul_add_mod, Nat.mod_eq_of_lt hch]
  unfold resB unP
  rw [e1, e2, e3, e4, pt_neg hI]
  unfold toP
  rw [h0, Nat.add_assoc]
theorem src_kd {k wd : Nat} (hk : k = 0 ∨ k = 2 ∨ k = 4) (p : Nat → Int) : srcP k wd p = toP wd (sz k) p := by
  unfold srcP; rw [if_neg (by omega)]
theorem by_srcP {k wd : Nat} {p : Nat → Int} (h : By p) (r c : Nat) : By (srcP k wd p r c) := by
  unfold srcP; split
  · exact h
  · exact by_toP h _ _ _ _

/-- the bytes of a drawn image are bytes -/
theorem by_res {kd dh dw n : Nat} {I : Nat → Nat → Prop} {F : Nat → Nat → Nat → Int} {p : Nat → Int} (hn : n = dh * (dw * sz kd)) (hp : By p) (hF : ∀ r c ch, ch < sz kd → 0 ≤ F r c ch ∧ F r c ch ≤ 255) : By (cutN n (resB kd dw I F p)) := by
  intro i
  unfold cutN
  split
  · rename_i hi
    obtain ⟨l1, l2, l3⟩ := un_lt (h := dh) (wd := dw) (k := sz kd) (i := i) (by omega)
    unfold resB unP
    by_cases h : I (i / (dw * sz kd)) (i % (dw * sz kd) / sz kd)
    · rw [pt_pos h]; exact hF _ _ _ l3
    · rw [pt_neg h]; exact by_toP hp _ _ _ _ _
  · omega
theorem px0_by {kd ks op : Nat} (hk : kd = 0 ∨ kd = 2 ∨ kd = 4) {d s : Nat → Int} (hd : By d) (hs : By s) (hp : Pm ks s) {ch : Nat} (hc : ch < sz kd) : 0 ≤ px0 kd ks op d s ch ∧ px0 kd ks op d s ch ≤ 255 := by
  have h := by_en hk (v := fun i => mix0 op (cl kd d i) (cl ks s i) (cl ks s 3)) (fun i hi => mix0_le (fu_cl hd i) (fu_cl hs i) (fu_cl hs 3) (pm_le hp hi)) ch
  rw [cutN_lt hc] at h
  exact h
theorem pxM_by {kd ks mk op : Nat} (hk : kd = 0 ∨ kd = 2 ∨ kd = 4) {d s m : Nat → Int} (hd : By d) (hs : By s) (hm : By m) (hp : Pm ks s) {ch : Nat} (hc : ch < sz kd) : 0 ≤ pxM kd ks mk op d s m ch ∧ pxM kd ks mk op d s m ch ≤ 255 := by
  have h := by_en hk (v := fun i => mixM op (cl kd d i) (cl ks s i) (cl ks s 3) (cl mk m 3)) (fun i hi => mixM_le (fu_cl hd i) (fu_cl hs i) (fu_cl hs 3) (fu_cl hm 3) (pm_le hp hi)) ch
  rw [cutN_lt hc] at h
  exact h
/-- a byte's place in the row of bytes -/
theorem at_lt {kd dh dw r c ch : Nat} (hr : r < dh) (hc : c < dw) (hch : ch < sz kd) : (r * dw + c) * sz kd + ch < dh * (dw * sz kd) := by
  have h := pix_bound (k := sz kd) hr hc hch
  rw [Nat.add_mul, Nat.mul_assoc]
  omega

theorem draw0_law {kd ks op dh dw sh sw : Nat} {Xd0 Yd0 sx0 sy0 X0 Y0 q0 q1 q2 q3 px py k0 k1 b0 b1 b2 b3 p0 p1 : Int} {p s : Nat → Int} (hkd : kd = 0 ∨ kd = 2 ∨ kd = 4) (hp : By p) (hs : By s) (hpm : Pmk ks s)
    (HC : Cl0 q0 q1 q2 q3 px py 0 0 Xd0 Yd0 (Xd0 + dw) (Yd0 + dh) sx0 sy0 (sx0 + sw) (sy0 + sh) b0 b1 b2 b3 p0 p1 k0 k1) (hX : ks = 6 ∨ (sx0 = X0 ∧ sy0 = Y0)) :
    By (cutN (dh * (dw * sz kd)) (resB kd dw (In0 q0 q1 q2 q3 px py Xd0 Yd0 sx0 sy0 sh sw) (fun r c => px0 kd ks op (toP dw (sz kd) p r c) (srcAt ks sw s q0 q1 px py Xd0 Yd0 sx0 sy0 r c)) p)) ∧
    (∀ r c ch, r < dh → c < dw → ch < sz kd → ¬ InC b0 b1 b2 b3 Xd0 Yd0 r c →
      cutN (dh * (dw * sz kd)) (resB kd dw (In0 q0 q1 q2 q3 px py Xd0 Yd0 sx0 sy0 sh sw) (fun r c => px0 kd ks op (toP dw (sz kd) p r c) (srcAt ks sw s q0 q1 px py Xd0 Yd0 sx0 sy0 r c)) p) ((r * dw + c) * sz kd + ch) = p ((r * dw + c) * sz kd + ch)) ∧
    (∀ r c, r < dh → c < dw → InC b0 b1 b2 b3 Xd0 Yd0 r c → ∃ sr sc : Nat, (ks = 6 ∨ (p0 + (Xd0 + (c : Int)) - b0 - X0 = sc ∧ p1 + (Yd0 + (r : Int)) - b1 - Y0 = sr ∧ sc < sw ∧ sr < sh)) ∧
      NearV kd (fun ch => cutN (dh * (dw * sz kd)) (resB kd dw (In0 q0 q1 q2 q3 px py Xd0 Yd0 sx0 sy0 sh sw) (fun r c => px0 kd ks op (toP dw (sz kd) p r c) (srcAt ks sw s q0 q1 px py Xd0 Yd0 sx0 sy0 r c)) p) ((r * dw + c) * sz kd + ch))
        (fun i => cmp op (cl kd (srcP kd dw p r c) i) (cl ks (srcP ks sw s sr sc) i) (cl ks (srcP ks sw s sr sc) 3) 65535)) := by
  refine ⟨by_res rfl hp (fun r c ch hch => px0_by hkd (by_toP hp _ _ _ _) (by_srcP hs _ _) (pm_src hpm _ _) hch), ?_⟩
  cases hE : emp b0 b1 b2 b3
  · obtain ⟨rx, ry, xe, ye, ax, ay, hR, hP, hI, hat⟩ := cl0_geo HC hE
    obtain ⟨e1, e2, e3, e4, l1, l2, l3, l4⟩ := hR
    obtain ⟨e5, e6, l5, l6⟩ := hP
    have hiff : ∀ r c : Nat, InC b0 b1 b2 b3 Xd0 Yd0 r c ↔ inR rx xe ry ye r c := fun r c => by unfold InC inR; omega
    refine ⟨fun r c ch hr hc hch hn => (cutN_lt (at_lt hr hc hch)).trans (res_ofk hc hch (fun h => hn ((hiff r c).2 ((hI r c hr hc).2 h)))), fun r c hr hc hin => ?_⟩
    have hin' := (hiff r c).1 hin
    obtain ⟨t1, t2⟩ := hat r c hin'
    obtain ⟨i1, i2, i3, i4⟩ := hin'
    refine ⟨ay + (r - ry), ax + (c - rx), ?_, near_congr hkd (fun ch hch => (cutN_lt (at_lt hr hc hch)).trans (res_atk hc hch ((hI r c hr hc).1 ⟨i1, i2, i3, i4⟩))) ?_⟩
    · rcases hX with h | ⟨rfl, rfl⟩
      · exact .inl h
      · exact .inr ⟨by omega, by omega, by omega, by omega⟩
    · have e : srcAt ks sw s q0 q1 px py Xd0 Yd0 sx0 sy0 r c = srcP ks sw s (ay + (r - ry)) (ax + (c - rx)) := by
        unfold srcAt; rw [← t1, ← t2, Int.toNat_natCast, Int.toNat_natCast]
      try dsimp only
      rw [e, src_kd hkd]
      exact px0_near hkd (by_toP hp _ _ _ _) (by_srcP hs _ _) (pm_src hpm _ _)
  · refine ⟨fun r c ch hr hc hch _ => (cutN_lt (at_lt hr hc hch)).trans (res_ofk hc hch (cl0_emp HC hE r c hr hc)), fun r c hr hc hin => ?_⟩
    unfold InC at hin
    have := emp_t.1 hE
    omega

theorem draw1_law {kd ks km op dh dw sh sw mh mw : Nat} {Xd0 Yd0 sx0 sy0 mx0 my0 X0 Y0 Xm0 Ym0 q0 q1 q2 q3 px py qx qy k0 k1 b0 b1 b2 b3 p0 p1 : Int} {p s m : Nat → Int} (hkd : kd = 0 ∨ kd = 2 ∨ kd = 4) (hp : By p) (hs : By s) (hm : By m) (hpm : Pmk ks s)
    (HC : Cl1 q0 q1 q2 q3 px py qx qy Xd0 Yd0 (Xd0 + dw) (Yd0 + dh) sx0 sy0 (sx0 + sw) (sy0 + sh) mx0 my0 (mx0 + mw) (my0 + mh) b0 b1 b2 b3 p0 p1 k0 k1) (hX : ks = 6 ∨ (sx0 = X0 ∧ sy0 = Y0)) (hM : km = 6 ∨ (mx0 = Xm0 ∧ my0 = Ym0)) :
    By (cutN (dh * (dw * sz kd)) (resB kd dw (In1 q0 q1 q2 q3 px py qx qy Xd0 Yd0 sx0 sy0 mx0 my0 sh sw mh mw) (fun r c => pxM kd ks km op (toP dw (sz kd) p r c) (srcAt ks sw s q0 q1 px py Xd0 Yd0 sx0 sy0 r c) (srcAt km mw m q0 q1 qx qy Xd0 Yd0 mx0 my0 r c)) p)) ∧
    (∀ r c ch, r < dh → c < dw → ch < sz kd → ¬ InC b0 b1 b2 b3 Xd0 Yd0 r c →
      cutN (dh * (dw * sz kd)) (resB kd dw (In1 q0 q1 q2 q3 px py qx qy Xd0 Yd0 sx0 sy0 mx0 my0 sh sw mh mw) (fun r c => pxM kd ks km op (toP dw (sz kd) p r c) (srcAt ks sw s q0 q1 px py Xd0 Yd0 sx0 sy0 r c) (srcAt km mw m q0 q1 qx qy Xd0 Yd0 mx0 my0 r c)) p) ((r * dw + c) * sz kd + ch) = p ((r * dw + c) * sz kd + ch)) ∧
    (∀ r c, r < dh → c < dw → InC b0 b1 b2 b3 Xd0 Yd0 r c → ∃ sr sc mr mc : Nat, (ks = 6 ∨ (p0 + (Xd0 + (c : Int)) - b0 - X0 = sc ∧ p1 + (Yd0 + (r : Int)) - b1 - Y0 = sr ∧ sc < sw ∧ sr < sh)) ∧ (km = 6 ∨ (k0 + (Xd0 + (c : Int)) - b0 - Xm0 = mc ∧ k1 + (Yd0 + (r : Int)) - b1 - Ym0 = mr ∧ mc < mw ∧ mr < mh)) ∧
      NearV kd (fun ch => cutN (dh * (dw * sz kd)) (resB kd dw (In1 q0 q1 q2 q3 px py qx qy Xd0 Yd0 sx0 sy0 mx0 my0 sh sw mh mw) (fun r c => pxM kd ks km op (toP dw (sz kd) p r c) (srcAt ks sw s q0 q1 px py Xd0 Yd0 sx0 sy0 r c) (srcAt km mw m q0 q1 qx qy Xd0 Yd0 mx0 my0 r c)) p) ((r * dw + c) * sz kd + ch))
        (fun i => cmp op (cl kd (srcP kd dw p r c) i) (cl ks (srcP ks sw s sr sc) i) (cl ks (srcP ks sw s sr sc) 3) (cl km (srcP km mw m mr mc) 3))) := by
  refine ⟨by_res rfl hp (fun r c ch hch => pxM_by hkd (by_toP hp _ _ _ _) (by_srcP hs _ _) (by_srcP hm _ _) (pm_src hpm _ _) hch), ?_⟩
  cases hE : emp b0 b1 b2 b3
  · obtain ⟨rx, ry, xe, ye, ax, ay, ux, uy, hR, hP, hQ, hI, hat⟩ := cl1_geo HC hE
    obtain ⟨e1, e2, e3, e4, l1, l2, l3, l4⟩ := hR
    obtain ⟨e5, e6, l5, l6⟩ := hP
    obtain ⟨e7, e8, l7, l8⟩ := hQ
    have hiff : ∀ r c : Nat, InC b0 b1 b2 b3 Xd0 Yd0 r c ↔ inR rx xe ry ye r c := fun r c => by unfold InC inR; omega
    refine ⟨fun r c ch hr hc hch hn => (cutN_lt (at_lt hr hc hch)).trans (res_ofk hc hch (fun h => hn ((hiff r c).2 ((hI r c hr hc).2 h)))), fun r c hr hc hin => ?_⟩
    have hin' := (hiff r c).1 hin
    obtain ⟨t1, t2, t3, t4⟩ := hat r c hin'
    obtain ⟨i1, i2, i3, i4⟩ := hin'
    refine ⟨ay + (r - ry), ax + (c - rx), uy + (r - ry), ux + (c - rx), ?_, ?_, near_congr hkd (fun ch hch => (cutN_lt (at_lt hr hc hch)).trans (res_atk hc hch ((hI r c hr hc).1 ⟨i1, i2, i3, i4⟩))) ?_⟩
    · rcases hX with h | ⟨rfl, rfl⟩
      · exact .inl h
      · exact .inr ⟨by omega, by omega, by omega, by omega⟩
    · rcases hM with h | ⟨rfl, rfl⟩
      · exact .inl h
      · exact .inr ⟨by omega, by omega, by omega, by omega⟩
    · have e : srcAt ks sw s q0 q1 px py Xd0 Yd0 sx0 sy0 r c = srcP ks sw s (ay + (r - ry)) (ax + (c - rx)) := by
        unfold srcAt; rw [← t1, ← t2, Int.toNat_natCast, Int.toNat_natCast]
      have e' : srcAt km mw m q0 q1 qx qy Xd0 Yd0 mx0 my0 r c = srcP km mw m (uy + (r - ry)) (ux + (c - rx)) := by
        unfold srcAt; rw [← t3, ← t4, Int.toNat_natCast, Int.toNat_natCast]
      try dsimp only
      rw [e, e', src_kd hkd]
      exact pxM_near hkd (by_toP hp _ _ _ _) (by_srcP hs _ _) (by_srcP hm _ _) (pm_src hpm _ _)
  · refine ⟨fun r c ch hr hc hch _ => (cutN_lt (at_lt hr hc hch)).trans (res_ofk hc hch (cl1_emp HC hE r c hr hc)), fun r c hr hc hin => ?_⟩
    unfold InC at hin
    have := emp_t.1 hE
    omega
end Go.Proofs.YtgjpohmjkhgpfaaGreat
