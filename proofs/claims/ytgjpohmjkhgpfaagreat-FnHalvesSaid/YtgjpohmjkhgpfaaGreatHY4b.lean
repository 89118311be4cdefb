/- image/draw: DrawMask's general loop through a mask, by Over. The images do not overlap. -/
import Derived.Test.YtgjpohmjkhgpfaaGreatHY4
set_option linter.unusedSimpArgs false
set_option linter.unusedVariables false
namespace Go.Proofs.YtgjpohmjkhgpfaaGreat
open Go.RowKit

set_option maxRecDepth 1000000 in
set_option maxHeartbeats 16000000 in
theorem in0_t {w0 : World} {td ts tm : TypeId} {bd pd dh dw bs ps sh sw bm pm mh mw kd ks km rx ry xe ye sx sy mx my br bp bq n tt : Nat} {dx0 dy0 sx0 sy0 mx0 my0 b0 b1 p0 p1 q0 q1 : Int} {D S M F : Nat → Nat → Nat → Int} (C : CxM 0 w0 td ts tm bd pd dh dw bs ps sh sw bm pm mh mw kd ks km rx ry xe ye sx sy mx my br bp bq n tt dx0 dy0 sx0 sy0 mx0 my0 b0 b1 p0 p1 q0 q1 D S M F) (c : Nat → Value) (wr : World) (j k : Nat) (P' : Act → World → Prop) (Q0 : Exit → Act → World → Prop)
    (hSl : SlM 0 td ts tm bd bs bm br bp bq n tt b0 b1 c) (h85 : c 85 = .int .i64 (b1 + (j : Int))) (h83 : c 83 = .int .i64 (p1 + (j : Int))) (h84 : c 84 = .int .i64 (q1 + (j : Int))) (h88 : c 88 = .int .i64 (b0 + (k : Int))) (h86 : c 86 = .int .i64 (p0 + (k : Int))) (h87 : c 87 = .int .i64 (q0 + (k : Int)))
    (hj : j < tt) (hk : k < n) (hgr : w0.grownBy wr (some pd)) (hgs : Src wr bd pd dh dw dx0 dy0 (pt (fw rx xe ry j k) F D) kd td) (hz : ¬ cl km (M (my + j) (mx + k)) 3 = 0 ∧ (cl km (M (my + j) (mx + k)) 3 == 65535) = true)
    (hP : ∀ a' w', InM 0 w0 td ts tm bd pd dh dw bs bm kd rx ry xe br bp bq n tt dx0 dy0 b0 b1 p0 p1 q0 q1 D F j (k + 1) a' w' → P' a' w') : Code.wp Tryz.prog innerM (Exit.then P' Q0) ⟨FRl c, []⟩ wr := by
  have HPx := hid hP
  obtain ⟨h6, h68, h70, h81, h62, h63, h64, h66, h67, h8, h10, h12⟩ := hSl
  have HSl := hid (And.intro h62 (And.intro h66 (And.intro h67 (And.intro h8 (And.intro h10 h12)))))
  clear hP h62 h66 h67 h8 h10 h12
  obtain ⟨fs, hFs, hMs, hCs⟩ := C.HS.m64
  obtain ⟨fm, hFm, hMm, hCm⟩ := C.HM.m64
  obtain ⟨fd, hFd, hMd, hCd⟩ := C.HD.m64u C.HK
  obtain ⟨fp, hFp, hMp, hCp⟩ := C.HD.mset C.HK
  have TA7 := fun w' => C.HD.nila C.HK w'
  unfold Fn at hFs hFm hFd hFp
  have HCs := hid hCs
  have HCm := hid hCm
  have HCd := hid hCd
  have HCp := hid hCp
  clear hCs hCm hCd hCp
  have HGR := hid hgr
  have HGS := hid hgs
  have HSr := hid (C.HS.kept hgr C.n1 C.n2)
  have HMr := hid (C.HM.kept hgr C.n4 C.n5)
  have hlb : bd < wr.heap.size := Nat.lt_of_lt_of_le C.HD.lt hgr.size
  obtain ⟨e1, e2, e3, e4, e5, e6⟩ := C.HE
  obtain ⟨i1, i2, i3, i4, i5, i6, i7, i8⟩ := C.HL
  have t1 : b0 + (k : Int) - dx0 = ((rx + k : Nat) : Int) := by omega
  have t2 : b1 + (j : Int) - dy0 = ((ry + j : Nat) : Int) := by omega
  have t3 : p0 + (k : Int) - sx0 = ((sx + k : Nat) : Int) := by omega
  have t4 : p1 + (j : Int) - sy0 = ((sy + j : Nat) : Int) := by omega
  have t6 : q0 + (k : Int) - mx0 = ((mx + k : Nat) : Int) := by omega
  have t7 : q1 + (j : Int) - my0 = ((my + j : Nat) : Int) := by omega
  have t5 : rx + k < dw ∧ ry + j < dh ∧ sx + k < sw ∧ sy + j < sh := by omega
  have t8 : mx + k < mw ∧ my + j < mh := by omega
  have t9 : rx + k < xe := by omega
  have HT := hid (And.intro (And.intro t1 t2) (And.intro (And.intro t3 t4) t5))
  have HTm := hid (And.intro t6 (And.intro t7 t8))
  have hFv : F (ry + j) (rx + k) = cutN (sz kd) (pxM kd ks km 0 (D (ry + j) (rx + k)) (S (sy + j) (sx + k)) (M (my + j) (mx + k))) := by
    rw [C.HF]; dsimp only
    rw [show sy + (ry + j - ry) = sy + j by omega, show sx + (rx + k - rx) = sx + k by omega, show my + (ry + j - ry) = my + j by omega, show mx + (rx + k - rx) = mx + k by omega]
  have HFv := hid hFv
  have hdn : ∀ r' c', fw rx xe ry j (k + 1) r' c' ↔ (fw rx xe ry j k r' c' ∨ (r' = ry + j ∧ c' = rx + k)) := fun r' c' => by unfold fw; omega
  have Hdn := hid hdn
  have hdd : pt (fw rx xe ry j k) F D (ry + j) (rx + k) = D (ry + j) (rx + k) := by
    funext ch; exact pt_neg (by unfold fw; omega) ch
  have hr1 : (b0 + (k : Int) != b0 + (n : Int)) = true := by rw [bne_iff_ne]; omega
  have hr2 : ¬ (k = n) := by omega
  have bb := C.HB
  have HBb := hid bb
  have bb1 : -9000 ≤ b0 + (k : Int) ∧ b0 + (k : Int) ≤ 9000 := by omega
  have bb2 : -9000009000 ≤ p0 + (k : Int) ∧ p0 + (k : Int) ≤ 9000009000 := by omega
  have bb3 : -9000009000 ≤ q0 + (k : Int) ∧ q0 + (k : Int) ≤ 9000009000 := by omega
  clear e1 e2 e3 e4 e5 e6 i1 i2 i3 i4 i5 i6 i7 i8 t1 t2 t3 t4 t5 t6 t7 t8 hFv hgr hgs bb hdn
  have HKd := hid C.HK
  obtain ⟨dd, hd⟩ : ∃ dd : Nat → Int, cl kd (D (ry + j) (rx + k)) = dd := ⟨_, rfl⟩
  obtain ⟨ss, hs⟩ : ∃ ss : Nat → Int, cl ks (S (sy + j) (sx + k)) = ss := ⟨_, rfl⟩
  obtain ⟨mv, hm⟩ : ∃ mv : Nat → Int, cl km (M (my + j) (mx + k)) = mv := ⟨_, rfl⟩
  rw [hm] at hz
  have rd : ∀ i, 0 ≤ dd i ∧ dd i ≤ 65535 := fun i => by rw [← hd]; exact cl_range (C.HD.by _ _) i
  have rs : ∀ i, 0 ≤ ss i ∧ ss i ≤ 65535 := fun i => by rw [← hs]; exact cl_range (C.HS.by _ _) i
  have rm : 0 ≤ mv 3 ∧ mv 3 ≤ 65535 := by rw [← hm]; exact cl_range (C.HM.by _ _) 3
  have ps : ∀ i, i < 4 → ss i ≤ ss 3 := fun i hi => by
    by_cases e : i = 3
    · rw [e]; exact Int.le_refl _
    · rw [← hs]; exact C.Hpm _ _ i (by omega)
  obtain ⟨v, hv⟩ : ∃ v : Nat → Int, v = fun i => mixM 0 (dd i) (ss i) (ss 3) (mv 3) := ⟨_, rfl⟩
  have hFe : F (ry + j) (rx + k) = cutN (sz kd) (en kd v) := by
    rw [HFv.out, hv, ← hd, ← hs, ← hm]; rfl
  have hvr : ∀ i, i < 4 → 0 ≤ v i ∧ v i ≤ 65535 := fun i hi => by
    rw [hv]; exact mixM_le (rd i) (rs i) (rs 3) rm (ps i hi)
  have Hv := hid (And.intro hFe hvr)
  have Hd := hid hd
  have Hs := hid hs
  have Hm := hid hm
  have HSB := hid C.HS.by
  have HDB := hid C.HD.by
  have FL := fun w' => fld3 mv w'
  clear hd hs hm hFe hvr C
  have z0 : (mv 3 == 0) = false := beq_eq_false_iff_ne.2 hz.1
  have z1 : (mv 3 == 65535) = true := hz.2
  clear hz
  obtain ⟨P0, hP0⟩ : ∃ P, ss 0 * mv 3 = P := ⟨_, rfl⟩
  obtain ⟨P1, hP1⟩ : ∃ P, ss 1 * mv 3 = P := ⟨_, rfl⟩
  obtain ⟨P2, hP2⟩ : ∃ P, ss 2 * mv 3 = P := ⟨_, rfl⟩
  obtain ⟨P3, hP3⟩ : ∃ P, ss 3 * mv 3 = P := ⟨_, rfl⟩
  have bP3 := fu_mul (rs 3) rm
  rw [hP3] at bP3
  have bP0 : 0 ≤ P0 ∧ P0 ≤ P3 := by rw [← hP0, ← hP3]; exact ⟨Int.mul_nonneg (rs 0).1 rm.1, prod_le rm.1 (ps 0 (by omega))⟩
  have bP1 : 0 ≤ P1 ∧ P1 ≤ P3 := by rw [← hP1, ← hP3]; exact ⟨Int.mul_nonneg (rs 1).1 rm.1, prod_le rm.1 (ps 1 (by omega))⟩
  have bP2 : 0 ≤ P2 ∧ P2 ≤ P3 := by rw [← hP2, ← hP3]; exact ⟨Int.mul_nonneg (rs 2).1 rm.1, prod_le rm.1 (ps 2 (by omega))⟩
  obtain ⟨Q0, hQ0⟩ : ∃ Q, dd 0 * (65535 - P3 / 65535) = Q := ⟨_, rfl⟩
  have bQ0 := rest_le (rd 0).1 (rd 0).2 (show 0 ≤ 65535 - P3 / 65535 by omega)
  rw [hQ0] at bQ0
  obtain ⟨Q1, hQ1⟩ : ∃ Q, dd 1 * (65535 - P3 / 65535) = Q := ⟨_, rfl⟩
  have bQ1 := rest_le (rd 1).1 (rd 1).2 (show 0 ≤ 65535 - P3 / 65535 by omega)
  rw [hQ1] at bQ1
  obtain ⟨Q2, hQ2⟩ : ∃ Q, dd 2 * (65535 - P3 / 65535) = Q := ⟨_, rfl⟩
  have bQ2 := rest_le (rd 2).1 (rd 2).2 (show 0 ≤ 65535 - P3 / 65535 by omega)
  rw [hQ2] at bQ2
  obtain ⟨Q3, hQ3⟩ : ∃ Q, dd 3 * (65535 - P3 / 65535) = Q := ⟨_, rfl⟩
  have bQ3 := rest_le (rd 3).1 (rd 3).2 (show 0 ≤ 65535 - P3 / 65535 by omega)
  rw [hQ3] at bQ3
  have y0 : 0 ≤ Q0 + P0 ∧ Q0 + P0 ≤ 4294901759 := by omega
  have y1 : 0 ≤ Q1 + P1 ∧ Q1 + P1 ≤ 4294901759 := by omega
  have y2 : 0 ≤ Q2 + P2 ∧ Q2 + P2 ≤ 4294901759 := by omega
  have y3 : 0 ≤ Q3 + P3 ∧ Q3 + P3 ≤ 4294901759 := by omega
  have V0 : (Q0 + P0) / 65535 = v 0 := by rw [hv]; show _ = mixM 0 _ _ _ _; unfold mixM; rw [if_pos rfl, hP3, hP0, hQ0]
  have V1 : (Q1 + P1) / 65535 = v 1 := by rw [hv]; show _ = mixM 0 _ _ _ _; unfold mixM; rw [if_pos rfl, hP3, hP1, hQ1]
  have V2 : (Q2 + P2) / 65535 = v 2 := by rw [hv]; show _ = mixM 0 _ _ _ _; unfold mixM; rw [if_pos rfl, hP3, hP2, hQ2]
  have V3 : (Q3 + P3) / 65535 = v 3 := by rw [hv]; show _ = mixM 0 _ _ _ _; unfold mixM; rw [if_pos rfl, hP3, hQ3]
  have D0 := rd 0
  have D1 := rd 1
  have D2 := rd 2
  have D3 := rd 3
  have S0 := rs 0
  have S1 := rs 1
  have S2 := rs 2
  have S3 := rs 3
  have HV := hid (And.intro V0 (And.intro V1 (And.intro V2 V3)))
  clear V0 V1 V2 V3 hv rd rs ps
  conv => arg 2; whnf
  unfold FRl
  go_wp2_with fail
  refine (HCm.out _ _ _ (my + j) (mx + k) (HMr.out.kept0 (by (repeat (first | exact gb_refl _ _ | refine gb_drewN ?_ _ | refine gb_drew ?_ | refine gb_alloc ?_ _)))) HTm.out.1 HTm.out.2.1 HTm.out.2.2.1 HTm.out.2.2.2).mono ?_
  rintro e w4 ⟨rfl, hg4⟩
  rw [Hm.out]
  have HG4 := hid (gb_trans (a := wr) (by (repeat (first | exact gb_refl _ _ | refine gb_drewN ?_ _ | refine gb_drew ?_ | refine gb_alloc ?_ _))) hg4)
  clear hg4
  go_wp2_with fail
  refine (HCs.out _ _ _ (sy + j) (sx + k) (HSr.out.kept0 (gb_trans HG4.out (by (repeat (first | exact gb_refl _ _ | refine gb_drewN ?_ _ | refine gb_drew ?_ | refine gb_alloc ?_ _))))) HT.out.2.1.1 HT.out.2.1.2 HT.out.2.2.2.2.1 HT.out.2.2.2.2.2).mono ?_
  rintro e w5 ⟨rfl, hg5⟩
  rw [Hs.out]
  have HG5 := hid (gb_trans (gb_trans HG4.out (by (repeat (first | exact gb_refl _ _ | refine gb_drewN ?_ _ | refine gb_drew ?_ | refine gb_alloc ?_ _)))) hg5)
  clear hg5
  go_wp2_with fail
  refine (HCd.out _ _ _ (ry + j) (rx + k) _ (HGS.out.kept0 (gb_trans HG5.out (by (repeat (first | exact gb_refl _ _ | refine gb_drewN ?_ _ | refine gb_drew ?_ | refine gb_alloc ?_ _))))) HT.out.1.1 HT.out.1.2 HT.out.2.2.1 HT.out.2.2.2.1).mono ?_
  rintro e w6 ⟨rfl, hg6⟩
  rw [hdd, Hd.out]
  have z5 : w5.heap.size < w6.heap.size := by have := hg6.size; simp at this; omega
  obtain ⟨cc, ff⟩ := gb_rules hg6
  have cc5 := fun o => cc w5.heap.size o (by simp)
  have HG6 := hid (gb_trans (gb_trans HG5.out (by (repeat (first | exact gb_refl _ _ | refine gb_drewN ?_ _ | refine gb_drew ?_ | refine gb_alloc ?_ _)))) hg6)
  clear hg6 cc ff
  go_wp2_with fail
  rw [HV.out.1, HV.out.2.1, HV.out.2.2.1, HV.out.2.2.2]
  refine (HCp.out _ _ _ (ry + j) (rx + k) v F D (fw rx xe ry j k) (fw rx xe ry j (k + 1)) (HGS.out.kept0 (gb_trans HG6.out (by (repeat (first | exact gb_refl _ _ | refine gb_drewN ?_ _ | refine gb_drew ?_ | refine gb_alloc ?_ _))))) HT.out.1.1 HT.out.1.2 HT.out.2.2.1 HT.out.2.2.2.1 Hv.out.2 Hv.out.1 Hdn.out).mono ?_
  rintro e w7 ⟨rfl, hg7, hs7⟩
  have HG7 := hid (gb_trans (gb_weak (gb_trans HG6.out (by (repeat (first | exact gb_refl _ _ | refine gb_drewN ?_ _ | refine gb_drew ?_ | refine gb_alloc ?_ _)))) (some pd)) hg7)
  have HS7 := hid hs7
  clear hg7 hs7
  go_wp2_with fail
  obtain ⟨h62, h66, h67, h8, h10, h12⟩ := HSl.out
  have z88 : (.int .i64 (b0 + (k : Int) + 1) : Value) = .int .i64 (b0 + ((k + 1 : Nat) : Int)) := by push_cast; rw [Int.add_assoc]
  have z86 : (.int .i64 (p0 + (k : Int) + 1) : Value) = .int .i64 (p0 + ((k + 1 : Nat) : Int)) := by push_cast; rw [Int.add_assoc]
  have z87 : (.int .i64 (q0 + (k : Int) + 1) : Value) = .int .i64 (q0 + ((k + 1 : Nat) : Int)) := by push_cast; rw [Int.add_assoc]
  exact HPx.out _ _ ⟨_, mkFR (by kernel_rfl), ⟨(by first | exact Eq.trans (by as_aux_lemma => kernel_rfl) h6 | kernel_rfl), (by first | exact Eq.trans (by as_aux_lemma => kernel_rfl) h68 | kernel_rfl), (by first | exact Eq.trans (by as_aux_lemma => kernel_rfl) h70 | kernel_rfl), (by first | exact Eq.trans (by as_aux_lemma => kernel_rfl) h81 | kernel_rfl), (by first | exact Eq.trans (by as_aux_lemma => kernel_rfl) h62 | kernel_rfl), (by first | exact Eq.trans (by as_aux_lemma => kernel_rfl) h63 | kernel_rfl), (by first | exact Eq.trans (by as_aux_lemma => kernel_rfl) h64 | kernel_rfl), (by first | exact Eq.trans (by as_aux_lemma => kernel_rfl) h66 | kernel_rfl), (by first | exact Eq.trans (by as_aux_lemma => kernel_rfl) h67 | kernel_rfl), (by first | exact Eq.trans (by as_aux_lemma => kernel_rfl) h8 | kernel_rfl), (by first | exact Eq.trans (by as_aux_lemma => kernel_rfl) h10 | kernel_rfl), (by first | exact Eq.trans (by as_aux_lemma => kernel_rfl) h12 | kernel_rfl)⟩, (by first | exact Eq.trans (by as_aux_lemma => kernel_rfl) h85 | kernel_rfl), (by first | exact Eq.trans (by as_aux_lemma => kernel_rfl) h83 | kernel_rfl), (by first | exact Eq.trans (by as_aux_lemma => kernel_rfl) h84 | kernel_rfl), (by first | exact Eq.trans (by as_aux_lemma => kernel_rfl) z88 | kernel_rfl), (by first | exact Eq.trans (by as_aux_lemma => kernel_rfl) z86 | kernel_rfl), (by first | exact Eq.trans (by as_aux_lemma => kernel_rfl) z87 | kernel_rfl), gb_trans HGR.out HG7.out, HS7.out⟩
end Go.Proofs.YtgjpohmjkhgpfaaGreat
