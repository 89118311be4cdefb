/- image/draw: DrawMask's general loop, pixel by pixel through the images' interfaces, by Over. The images do not overlap. -/
import Derived.Test.YtgjpohmjkhgpfaaGreatHSD
set_option linter.unusedSimpArgs false
set_option linter.unusedVariables false
namespace Go.Proofs.YtgjpohmjkhgpfaaGreat
open Go.RowKit

set_option maxRecDepth 1000000 in
set_option maxHeartbeats 16000000 in
theorem sl0_z {w0 : World} {td ts tm : TypeId} {bd pd dh dw bs ps sh sw bm pm mh mw kd ks km rx ry xe ye sx sy mx my br bp bq bo n tt : Nat} {dx0 dy0 sx0 sy0 mx0 my0 b0 b1 p0 p1 q0 q1 : Int} {D S M F : Nat → Nat → Nat → Int} (C : CxS 0 w0 td ts tm bd pd dh dw bs ps sh sw bm pm mh mw kd ks km rx ry xe ye sx sy mx my br bp bq bo n tt dx0 dy0 sx0 sy0 mx0 my0 b0 b1 p0 p1 q0 q1 D S M F) (c : Nat → Value) (wr : World) (j k : Nat) (P' : Act → World → Prop) (Q0 : Exit → Act → World → Prop)
    (hSl : SlS 0 td ts tm bd bs bm br bp bq bo n tt b0 b1 c) (h96 : c 96 = .int .i64 (b1 + (j : Int))) (h94 : c 94 = .int .i64 (p1 + (j : Int))) (h95 : c 95 = .int .i64 (q1 + (j : Int))) (h99 : c 99 = .int .i64 (b0 + (k : Int))) (h97 : c 97 = .int .i64 (p0 + (k : Int))) (h98 : c 98 = .int .i64 (q0 + (k : Int)))
    (hj : j < tt) (hk : k < n) (hgr : w0.grownBy wr (some pd)) (hgs : Src wr bd pd dh dw dx0 dy0 (pt (fw rx xe ry j k) F D) kd td) (hoc : OutC wr bo) (hz : cl km (M (my + j) (mx + k)) 3 = 0)
    (hP : ∀ a' w', InS 0 w0 td ts tm bd pd dh dw bs bm kd rx ry xe br bp bq bo n tt dx0 dy0 b0 b1 p0 p1 q0 q1 D F j (k + 1) a' w' → P' a' w') : Code.wp Tryz.prog innerS (Exit.then P' Q0) ⟨FRl c, []⟩ wr := by
  have HPx := hid hP
  obtain ⟨h6, h0, h2, h4, h62, h63, h64, h66, h67, h8, h10, h12, h93⟩ := hSl
  have HSl := hid (And.intro h62 (And.intro h66 (And.intro h67 (And.intro h8 (And.intro h10 h12)))))
  clear hP h62 h66 h67 h8 h10 h12
  obtain ⟨fs, hFs, hMs, hCs⟩ := C.HS.matx
  obtain ⟨fm, hFm, hMm, hCm⟩ := C.HM.mat
  unfold Fn at hFs hFm
  have HCs := hid hCs
  have HCm := hid hCm
  clear hCs hCm
  have HGR := hid hgr
  have HGS := hid hgs
  have HOC := hid hoc
  have HO := hid C.ho
  have HO1 := hid C.o1
  have HO2 := hid C.o2
  have HSr := hid (C.HS.kept hgr C.n1 C.n2)
  have HMr := hid (C.HM.kept hgr C.n4 C.n5)
  have hlb : bd < wr.heap.size := Nat.lt_of_lt_of_le C.HD.lt hgr.size
  obtain ⟨e1, e2, e3, e4, e5, e6⟩ := C.HE
  obtain ⟨i1, i2, i3, i4, i5, i6, i7, i8⟩ := C.HL
  have t1 : b0 + (k : Int) - dx0 = ((rx + k : Nat) : Int) := by omega
  have t2 : b1 + (j : Int) - dy0 = ((ry + j : Nat) : Int) := by omega
  have t3 : p0 + (k : Int) - sx0 = ((sx + k : Nat) : Int) := by omega
  have t4 : p1 + (j : Int) - sy0 = ((sy + j : Nat) : Int) := by omega
  have t6 : q0 + (k : Int) - mx0 = ((mx + k : Nat) : Int) := by omega
  have t7 : q1 + (j : Int) - my0 = ((my + j : Nat) : Int) := by omega
  have t5 : rx + k < dw ∧ ry + j < dh ∧ sx + k < sw ∧ sy + j < sh := by omega
  have t8 : mx + k < mw ∧ my + j < mh := by omega
  have t9 : rx + k < xe := by omega
  have HT := hid (And.intro (And.intro t1 t2) (And.intro (And.intro t3 t4) t5))
  have HTm := hid (And.intro t6 (And.intro t7 t8))
  have hFv : F (ry + j) (rx + k) = cutN (sz kd) (pxM kd ks km 0 (D (ry + j) (rx + k)) (S (sy + j) (sx + k)) (M (my + j) (mx + k))) := by
    rw [C.HF]; dsimp only
    rw [show sy + (ry + j - ry) = sy + j by omega, show sx + (rx + k - rx) = sx + k by omega, show my + (ry + j - ry) = my + j by omega, show mx + (rx + k - rx) = mx + k by omega]
  have HFv := hid hFv
  have hdn : ∀ r' c', fw rx xe ry j (k + 1) r' c' ↔ (fw rx xe ry j k r' c' ∨ (r' = ry + j ∧ c' = rx + k)) := fun r' c' => by unfold fw; omega
  have Hdn := hid hdn
  have hdd : pt (fw rx xe ry j k) F D (ry + j) (rx + k) = D (ry + j) (rx + k) := by
    funext ch; exact pt_neg (by unfold fw; omega) ch
  have hr1 : (b0 + (k : Int) != b0 + (n : Int)) = true := by rw [bne_iff_ne]; omega
  have hr2 : ¬ (k = n) := by omega
  have bb := C.HB
  have HBb := hid bb
  have bb1 : -9000 ≤ b0 + (k : Int) ∧ b0 + (k : Int) ≤ 9000 := by omega
  have bb2 : -9000009000 ≤ p0 + (k : Int) ∧ p0 + (k : Int) ≤ 9000009000 := by omega
  have bb3 : -9000009000 ≤ q0 + (k : Int) ∧ q0 + (k : Int) ≤ 9000009000 := by omega
  clear e1 e2 e3 e4 e5 e6 i1 i2 i3 i4 i5 i6 i7 i8 t1 t2 t3 t4 t5 t6 t7 t8 hFv hgr hgs hoc bb hdn
  have HKd := hid C.HK
  obtain ⟨dd, hd⟩ : ∃ dd : Nat → Int, cl kd (D (ry + j) (rx + k)) = dd := ⟨_, rfl⟩
  obtain ⟨ss, hs⟩ : ∃ ss : Nat → Int, cl ks (S (sy + j) (sx + k)) = ss := ⟨_, rfl⟩
  obtain ⟨mv, hm⟩ : ∃ mv : Nat → Int, cl km (M (my + j) (mx + k)) = mv := ⟨_, rfl⟩
  rw [hm] at hz
  have rd : ∀ i, 0 ≤ dd i ∧ dd i ≤ 65535 := fun i => by rw [← hd]; exact cl_range (C.HD.by _ _) i
  have rs : ∀ i, 0 ≤ ss i ∧ ss i ≤ 65535 := fun i => by rw [← hs]; exact cl_range (C.HS.by _ _) i
  have rm : 0 ≤ mv 3 ∧ mv 3 ≤ 65535 := by rw [← hm]; exact cl_range (C.HM.by _ _) 3
  have ps : ∀ i, i < 4 → ss i ≤ ss 3 := fun i hi => by
    by_cases e : i = 3
    · rw [e]; exact Int.le_refl _
    · rw [← hs]; exact C.Hpm _ _ i (by omega)
  obtain ⟨v, hv⟩ : ∃ v : Nat → Int, v = fun i => mixM 0 (dd i) (ss i) (ss 3) (mv 3) := ⟨_, rfl⟩
  have hFe : F (ry + j) (rx + k) = cutN (sz kd) (en kd v) := by
    rw [HFv.out, hv, ← hd, ← hs, ← hm]; rfl
  have hvr : ∀ i, i < 4 → 0 ≤ v i ∧ v i ≤ 65535 := fun i hi => by
    rw [hv]; exact mixM_le (rd i) (rs i) (rs 3) rm (ps i hi)
  have Hv := hid (And.intro hFe hvr)
  have Hd := hid hd
  have Hs := hid hs
  have Hm := hid hm
  have HSB := hid C.HS.by
  have HDB := hid C.HD.by
  clear hd hs hm hFe hvr C
  have z0 : (mv 3 == 0) = true := beq_iff_eq.2 hz
  have Hz := hid hz
  clear hz hv rd rs ps
  conv => arg 2; whnf
  unfold FRl
  go_wp2_with fail
  refine (HCm.out _ _ _ (my + j) (mx + k) (HMr.out.kept0 (by (repeat (first | exact gb_refl _ _ | refine gb_drewN ?_ _ | refine gb_drew ?_ | refine gb_alloc ?_ _)))) HTm.out.1 HTm.out.2.1 HTm.out.2.2.1 HTm.out.2.2.2).mono ?_
  rintro e w4 ⟨⟨tcm, cvm, rfl, gm, hFgm, hMgm, hGgm⟩, hg4⟩
  rw [Hm.out] at hGgm
  have HG4 := hid (gb_trans (a := wr) (by (repeat (first | exact gb_refl _ _ | refine gb_drewN ?_ _ | refine gb_drew ?_ | refine gb_alloc ?_ _))) hg4)
  have HGm := hid hGgm
  unfold Fn at hFgm
  clear hg4 hGgm
  go_wp2_with fail
  refine (HGm.out _).mono ?_
  rintro e w5 ⟨rfl, hg5⟩
  have HG5 := hid (gb_trans (gb_trans HG4.out (by (repeat (first | exact gb_refl _ _ | refine gb_drewN ?_ _ | refine gb_drew ?_ | refine gb_alloc ?_ _)))) hg5)
  clear hg5 hFgm hMgm
  have hfd : ∀ ch, ch < sz kd → F (ry + j) (rx + k) ch = D (ry + j) (rx + k) ch := fun ch hch => by
    rw [HFv.out, cutN_lt hch, pxM_zero (by have := HKd.out; omega) (HDB.out _ _) (by rw [Hm.out]; exact Hz.out) hch, if_pos rfl]
  have HS7 : Hid (Src wr bd pd dh dw dx0 dy0 (pt (fw rx xe ry j (k + 1)) F D) kd td) := hid (HGS.out.congr0 HKd.out (fun r c ch hr hc hch => by
    by_cases e : r = ry + j ∧ c = rx + k
    · obtain ⟨rfl, rfl⟩ := e
      rw [pt_neg (by unfold fw; omega), pt_pos ((Hdn.out _ _).2 (.inr ⟨rfl, rfl⟩))]
      exact (hfd ch hch).symm
    · exact (pt_iff (by rw [Hdn.out]; exact ⟨fun h => h.resolve_right e, .inl⟩) ch).symm) (by_pt (dn := fw rx xe ry j k) Hdn.out HGS.out.by (by rw [Hv.out.1]; exact by_en (by have := HKd.out; omega) Hv.out.2)))
  clear hfd
  go_wp2_with fail
  obtain ⟨h62, h66, h67, h8, h10, h12⟩ := HSl.out
  have z99 : (.int .i64 (b0 + (k : Int) + 1) : Value) = .int .i64 (b0 + ((k + 1 : Nat) : Int)) := by push_cast; rw [Int.add_assoc]
  have z97 : (.int .i64 (p0 + (k : Int) + 1) : Value) = .int .i64 (p0 + ((k + 1 : Nat) : Int)) := by push_cast; rw [Int.add_assoc]
  have z98 : (.int .i64 (q0 + (k : Int) + 1) : Value) = .int .i64 (q0 + ((k + 1 : Nat) : Int)) := by push_cast; rw [Int.add_assoc]
  exact HPx.out _ _ ⟨_, mkFR (by kernel_rfl), ⟨(by first | exact Eq.trans (by as_aux_lemma => kernel_rfl) h6 | kernel_rfl), (by first | exact Eq.trans (by as_aux_lemma => kernel_rfl) h0 | kernel_rfl), (by first | exact Eq.trans (by as_aux_lemma => kernel_rfl) h2 | kernel_rfl), (by first | exact Eq.trans (by as_aux_lemma => kernel_rfl) h4 | kernel_rfl), (by first | exact Eq.trans (by as_aux_lemma => kernel_rfl) h62 | kernel_rfl), (by first | exact Eq.trans (by as_aux_lemma => kernel_rfl) h63 | kernel_rfl), (by first | exact Eq.trans (by as_aux_lemma => kernel_rfl) h64 | kernel_rfl), (by first | exact Eq.trans (by as_aux_lemma => kernel_rfl) h66 | kernel_rfl), (by first | exact Eq.trans (by as_aux_lemma => kernel_rfl) h67 | kernel_rfl), (by first | exact Eq.trans (by as_aux_lemma => kernel_rfl) h8 | kernel_rfl), (by first | exact Eq.trans (by as_aux_lemma => kernel_rfl) h10 | kernel_rfl), (by first | exact Eq.trans (by as_aux_lemma => kernel_rfl) h12 | kernel_rfl), (by first | exact Eq.trans (by as_aux_lemma => kernel_rfl) h93 | kernel_rfl)⟩, (by first | exact Eq.trans (by as_aux_lemma => kernel_rfl) h96 | kernel_rfl), (by first | exact Eq.trans (by as_aux_lemma => kernel_rfl) h94 | kernel_rfl), (by first | exact Eq.trans (by as_aux_lemma => kernel_rfl) h95 | kernel_rfl), (by first | exact Eq.trans (by as_aux_lemma => kernel_rfl) z99 | kernel_rfl), (by first | exact Eq.trans (by as_aux_lemma => kernel_rfl) z97 | kernel_rfl), (by first | exact Eq.trans (by as_aux_lemma => kernel_rfl) z98 | kernel_rfl), gb_trans' HGR.out HG5.out, HS7.out.kept0 HG5.out, HOC.out.kept0 HG5.out⟩
end Go.Proofs.YtgjpohmjkhgpfaaGreat
