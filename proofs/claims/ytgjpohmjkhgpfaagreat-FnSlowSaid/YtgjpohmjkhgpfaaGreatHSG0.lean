/- image/draw: DrawMask's general loop, pixel by pixel through the images' interfaces, by Over. The images do not overlap. -/
import Derived.Test.YtgjpohmjkhgpfaaGreatHSEz
import Derived.Test.YtgjpohmjkhgpfaaGreatHSEd
import Derived.Test.YtgjpohmjkhgpfaaGreatHSEt
set_option linter.unusedSimpArgs false
set_option linter.unusedVariables false
namespace Go.Proofs.YtgjpohmjkhgpfaaGreat
open Go.RowKit

set_option maxRecDepth 1000000 in
set_option maxHeartbeats 16000000 in
/-- the row's end -/
theorem sl0_end {w0 : World} {td ts tm : TypeId} {bd pd dh dw bs ps sh sw bm pm mh mw kd ks km rx ry xe ye sx sy mx my br bp bq bo n tt : Nat} {dx0 dy0 sx0 sy0 mx0 my0 b0 b1 p0 p1 q0 q1 : Int} {D S M F : Nat → Nat → Nat → Int} (C : CxS 0 w0 td ts tm bd pd dh dw bs ps sh sw bm pm mh mw kd ks km rx ry xe ye sx sy mx my br bp bq bo n tt dx0 dy0 sx0 sy0 mx0 my0 b0 b1 p0 p1 q0 q1 D S M F) (c : Nat → Value) (wr : World) (j : Nat) (P' : Act → World → Prop) (Q0 : Exit → Act → World → Prop)
    (hSl : SlS 0 td ts tm bd bs bm br bp bq bo n tt b0 b1 c) (h96 : c 96 = .int .i64 (b1 + (j : Int))) (h94 : c 94 = .int .i64 (p1 + (j : Int))) (h95 : c 95 = .int .i64 (q1 + (j : Int))) (h99 : c 99 = .int .i64 (b0 + (n : Int))) (h97 : c 97 = .int .i64 (p0 + (n : Int))) (h98 : c 98 = .int .i64 (q0 + (n : Int)))
    (hgr : w0.grownBy wr (some pd)) (hgs : Src wr bd pd dh dw dx0 dy0 (pt (fw rx xe ry j n) F D) kd td) (hoc : OutC wr bo)
    (hQ : ∀ a' w', InS 0 w0 td ts tm bd pd dh dw bs bm kd rx ry xe br bp bq bo n tt dx0 dy0 b0 b1 p0 p1 q0 q1 D F j n a' w' → Q0 (.exit 19) a' w') : Code.wp Tryz.prog innerS (Exit.then P' Q0) ⟨FRl c, []⟩ wr := by
  have HQx := hid hQ
  have HSl := hid hSl
  obtain ⟨-, -, -, -, -, h63, -⟩ := hSl
  have hr1 : (b0 + (n : Int) != b0 + (n : Int)) = false := by rw [bne_eq_false_iff_eq]
  have HGR := hid hgr
  have HGS := hid hgs
  have HOC := hid hoc
  clear hQ hgr hgs hoc C
  conv => arg 2; whnf
  unfold FRl
  go_wp2_with fail
  obtain ⟨h6, h0, h2, h4, h62, h63, h64, h66, h67, h8, h10, h12, h93⟩ := HSl.out
  exact HQx.out _ _ ⟨_, mkFR (by kernel_rfl), ⟨(by first | exact Eq.trans (by as_aux_lemma => kernel_rfl) h6 | kernel_rfl), (by first | exact Eq.trans (by as_aux_lemma => kernel_rfl) h0 | kernel_rfl), (by first | exact Eq.trans (by as_aux_lemma => kernel_rfl) h2 | kernel_rfl), (by first | exact Eq.trans (by as_aux_lemma => kernel_rfl) h4 | kernel_rfl), (by first | exact Eq.trans (by as_aux_lemma => kernel_rfl) h62 | kernel_rfl), (by first | exact Eq.trans (by as_aux_lemma => kernel_rfl) h63 | kernel_rfl), (by first | exact Eq.trans (by as_aux_lemma => kernel_rfl) h64 | kernel_rfl), (by first | exact Eq.trans (by as_aux_lemma => kernel_rfl) h66 | kernel_rfl), (by first | exact Eq.trans (by as_aux_lemma => kernel_rfl) h67 | kernel_rfl), (by first | exact Eq.trans (by as_aux_lemma => kernel_rfl) h8 | kernel_rfl), (by first | exact Eq.trans (by as_aux_lemma => kernel_rfl) h10 | kernel_rfl), (by first | exact Eq.trans (by as_aux_lemma => kernel_rfl) h12 | kernel_rfl), (by first | exact Eq.trans (by as_aux_lemma => kernel_rfl) h93 | kernel_rfl)⟩, (by first | exact Eq.trans (by as_aux_lemma => kernel_rfl) h96 | kernel_rfl), (by first | exact Eq.trans (by as_aux_lemma => kernel_rfl) h94 | kernel_rfl), (by first | exact Eq.trans (by as_aux_lemma => kernel_rfl) h95 | kernel_rfl), (by first | exact Eq.trans (by as_aux_lemma => kernel_rfl) h99 | kernel_rfl), (by first | exact Eq.trans (by as_aux_lemma => kernel_rfl) h97 | kernel_rfl), (by first | exact Eq.trans (by as_aux_lemma => kernel_rfl) h98 | kernel_rfl), HGR.out, HGS.out, HOC.out⟩

theorem sl0_round {w0 : World} {td ts tm : TypeId} {bd pd dh dw bs ps sh sw bm pm mh mw kd ks km rx ry xe ye sx sy mx my br bp bq bo n tt : Nat} {dx0 dy0 sx0 sy0 mx0 my0 b0 b1 p0 p1 q0 q1 : Int} {D S M F : Nat → Nat → Nat → Int} (C : CxS 0 w0 td ts tm bd pd dh dw bs ps sh sw bm pm mh mw kd ks km rx ry xe ye sx sy mx my br bp bq bo n tt dx0 dy0 sx0 sy0 mx0 my0 b0 b1 p0 p1 q0 q1 D S M F) (j k : Nat) (hj : j < tt) (hk : k ≤ n) (P' : Act → World → Prop) (Q0 : Exit → Act → World → Prop) (a : Act) (wr : World) (hI : InS 0 w0 td ts tm bd pd dh dw bs bm kd rx ry xe br bp bq bo n tt dx0 dy0 b0 b1 p0 p1 q0 q1 D F j k a wr)
    (hP : k < n → ∀ a' w', InS 0 w0 td ts tm bd pd dh dw bs bm kd rx ry xe br bp bq bo n tt dx0 dy0 b0 b1 p0 p1 q0 q1 D F j (k + 1) a' w' → P' a' w') (hQ : ∀ a' w', InS 0 w0 td ts tm bd pd dh dw bs bm kd rx ry xe br bp bq bo n tt dx0 dy0 b0 b1 p0 p1 q0 q1 D F j n a' w' → Q0 (.exit 19) a' w') : Code.wp Tryz.prog innerS (Exit.then P' Q0) a wr := by
  obtain ⟨c, rfl, hSl, h96, h94, h95, h99, h97, h98, hgr, hgs, hoc⟩ := hI
  by_cases hlt : k < n
  · by_cases hz : cl km (M (my + j) (mx + k)) 3 = 0
    · exact sl0_z C c wr j k P' Q0 hSl h96 h94 h95 h99 h97 h98 hj hlt hgr hgs hoc hz (hP hlt)
    · cases hz1 : (cl km (M (my + j) (mx + k)) 3 == 65535)
      · exact sl0_d C c wr j k P' Q0 hSl h96 h94 h95 h99 h97 h98 hj hlt hgr hgs hoc ⟨hz, hz1⟩ (hP hlt)
      · exact sl0_t C c wr j k P' Q0 hSl h96 h94 h95 h99 h97 h98 hj hlt hgr hgs hoc ⟨hz, hz1⟩ (hP hlt)
  · obtain rfl : k = n := by omega
    exact sl0_end C c wr j P' Q0 hSl h96 h94 h95 h99 h97 h98 hgr hgs hoc hQ

set_option maxRecDepth 1000000 in
theorem sl0_loop {w0 : World} {td ts tm : TypeId} {bd pd dh dw bs ps sh sw bm pm mh mw kd ks km rx ry xe ye sx sy mx my br bp bq bo n tt : Nat} {dx0 dy0 sx0 sy0 mx0 my0 b0 b1 p0 p1 q0 q1 : Int} {D S M F : Nat → Nat → Nat → Int} (C : CxS 0 w0 td ts tm bd pd dh dw bs ps sh sw bm pm mh mw kd ks km rx ry xe ye sx sy mx my br bp bq bo n tt dx0 dy0 sx0 sy0 mx0 my0 b0 b1 p0 p1 q0 q1 D S M F) (j : Nat) (hj : j < tt) (Q0 : Exit → Act → World → Prop) (a : Act) (wr : World) (hI : InS 0 w0 td ts tm bd pd dh dw bs bm kd rx ry xe br bp bq bo n tt dx0 dy0 b0 b1 p0 p1 q0 q1 D F j 0 a wr)
    (hQ : ∀ a' w', InS 0 w0 td ts tm bd pd dh dw bs bm kd rx ry xe br bp bq bo n tt dx0 dy0 b0 b1 p0 p1 q0 q1 D F j n a' w' → Q0 (.exit 19) a' w') : Code.wp Tryz.prog (Code.loop innerS) Q0 a wr := by
  refine wp_loop (fun a' w' => ∃ k, k ≤ n ∧ InS 0 w0 td ts tm bd pd dh dw bs bm kd rx ry xe br bp bq bo n tt dx0 dy0 b0 b1 p0 p1 q0 q1 D F j k a' w') (fun a' _ => (b0 + (n : Int) - intOf (a'.tmps.getD 99 undef)).toNat) ⟨0, Nat.zero_le _, hI⟩ (fun a' w' hI' => ?_)
  obtain ⟨k, hk, hI'⟩ := hI'
  refine sl0_round C j k hj hk _ Q0 a' w' hI' (fun hlt a'' w'' hI'' => ⟨⟨k + 1, by omega, hI''⟩, ?_⟩) hQ
  obtain ⟨c, rfl, -, -, -, -, h99, -⟩ := hI'
  obtain ⟨c', rfl, -, -, -, -, h99', -⟩ := hI''
  have e : ∀ c : Nat → Value, (FRl c).getD 99 undef = c 99 := fun c => by kernel_rfl
  show (b0 + (n : Int) - intOf ((FRl c').getD 99 undef)).toNat < (b0 + (n : Int) - intOf ((FRl c).getD 99 undef)).toNat
  rw [e, e, h99, h99']
  simp only [intOf]
  omega
theorem sl0_lit {w0 : World} {td ts tm : TypeId} {bd pd dh dw bs ps sh sw bm pm mh mw kd ks km rx ry xe ye sx sy mx my br bp bq bo n tt : Nat} {dx0 dy0 sx0 sy0 mx0 my0 b0 b1 p0 p1 q0 q1 : Int} {D S M F : Nat → Nat → Nat → Int} (C : CxS 0 w0 td ts tm bd pd dh dw bs ps sh sw bm pm mh mw kd ks km rx ry xe ye sx sy mx my br bp bq bo n tt dx0 dy0 sx0 sy0 mx0 my0 b0 b1 p0 p1 q0 q1 D S M F) (j : Nat) (hj : j < tt) (Q0 : Exit → Act → World → Prop) {L : List Value} (wr : World) (hL : L.length = 1124)
    (hSl : SlS 0 td ts tm bd bs bm br bp bq bo n tt b0 b1 (fun i => L.getD i undef)) (h96 : L.getD 96 undef = .int .i64 (b1 + (j : Int))) (h94 : L.getD 94 undef = .int .i64 (p1 + (j : Int))) (h95 : L.getD 95 undef = .int .i64 (q1 + (j : Int)))
    (h99 : L.getD 99 undef = .int .i64 b0) (h97 : L.getD 97 undef = .int .i64 p0) (h98 : L.getD 98 undef = .int .i64 q0) (hgr : w0.grownBy wr (some pd)) (hgs : Src wr bd pd dh dw dx0 dy0 (pt (fw rx xe ry j 0) F D) kd td) (hoc : OutC wr bo)
    (hQ : ∀ c w', SlS 0 td ts tm bd bs bm br bp bq bo n tt b0 b1 c → c 96 = .int .i64 (b1 + (j : Int)) → c 94 = .int .i64 (p1 + (j : Int)) → c 95 = .int .i64 (q1 + (j : Int)) → w0.grownBy w' (some pd) → Src w' bd pd dh dw dx0 dy0 (pt (fw rx xe ry (j + 1) 0) F D) kd td → OutC w' bo → Q0 (.exit 19) ⟨FRl c, []⟩ w') :
    Code.wp Tryz.prog (Code.loop innerS) Q0 ⟨L.toArray, []⟩ wr := by
  refine sl0_loop C j hj Q0 _ wr ⟨_, mkFR hL, hSl, h96, h94, h95, by rw [h99]; simp, by rw [h97]; simp, by rw [h98]; simp, hgr, hgs, hoc⟩ (fun a' w' hI' => ?_)
  obtain ⟨c, rfl, g1, g2, g3, g4, -, -, -, g5, g6, g7⟩ := hI'
  refine hQ c w' g1 g2 g3 g4 g5 ?_ g7
  have := C.HL
  rw [← pt_eq (dn := fw rx xe ry j n) (fun r c => by unfold fw; omega)]
  exact g6

set_option maxRecDepth 1000000 in
set_option maxHeartbeats 16000000 in
theorem slo0_step {w0 : World} {td ts tm : TypeId} {bd pd dh dw bs ps sh sw bm pm mh mw kd ks km rx ry xe ye sx sy mx my br bp bq bo n tt : Nat} {dx0 dy0 sx0 sy0 mx0 my0 b0 b1 p0 p1 q0 q1 : Int} {D S M F : Nat → Nat → Nat → Int} (C : CxS 0 w0 td ts tm bd pd dh dw bs ps sh sw bm pm mh mw kd ks km rx ry xe ye sx sy mx my br bp bq bo n tt dx0 dy0 sx0 sy0 mx0 my0 b0 b1 p0 p1 q0 q1 D S M F) (c : Nat → Value) (wr : World) (j : Nat) (P' : Act → World → Prop) (Q0 : Exit → Act → World → Prop)
    (hSl : SlS 0 td ts tm bd bs bm br bp bq bo n tt b0 b1 c) (h96 : c 96 = .int .i64 (b1 + (j : Int))) (h94 : c 94 = .int .i64 (p1 + (j : Int))) (h95 : c 95 = .int .i64 (q1 + (j : Int))) (hj : j < tt) (hgr : w0.grownBy wr (some pd)) (hgs : Src wr bd pd dh dw dx0 dy0 (pt (fw rx xe ry j 0) F D) kd td) (hoc : OutC wr bo)
    (hP : ∀ a' w', OutS 0 w0 td ts tm bd pd dh dw bs bm kd rx ry xe br bp bq bo n tt dx0 dy0 b0 b1 p1 q1 D F (j + 1) a' w' → P' a' w') : Code.wp Tryz.prog outerS (Exit.then P' Q0) ⟨FRl c, []⟩ wr := by
  have HPx := hid hP
  have HSl := hid hSl
  obtain ⟨h6, h0, h2, h4, h62, h63, h64, h66, h67, h8, h10, h12, h93⟩ := hSl
  have HCx := hid C
  have bb := C.HB
  have HGR := hid hgr
  have HGS := hid hgs
  have HOC := hid hoc
  have hy1 : (b1 + (j : Int) != b1 + (tt : Int)) = true := by rw [bne_iff_ne]; omega
  have hy2 : ¬ (j = tt) := by omega
  obtain ⟨k0, k1, k2, k3, k4, k5, k6, k7, -, -, -⟩ := C.HC
  have z1 : br < w0.heap.size := World.block_lt_of_cell? w0 _ k0
  have z2 : bp < w0.heap.size := World.block_lt_of_cell? w0 _ k4
  have z3 : bq < w0.heap.size := World.block_lt_of_cell? w0 _ k6
  have m0 := (gb_cell hgr (p := ⟨br, 0, none⟩) z1 C.m1).trans k0
  have m4 := (gb_cell hgr (p := ⟨bp, 0, none⟩) z2 C.m2).trans k4
  have m6 := (gb_cell hgr (p := ⟨bq, 0, none⟩) z3 C.m3).trans k6
  clear k0 k1 k2 k3 k4 k5 k6 k7 z1 z2 z3 hP hgr hgs hoc C
  conv => arg 2; whnf
  unfold FRl
  go_wp2_with fail
  refine sl0_lit HCx.out j hj _ wr (by kernel_rfl) ⟨(by first | exact Eq.trans (by as_aux_lemma => kernel_rfl) h6 | kernel_rfl), (by first | exact Eq.trans (by as_aux_lemma => kernel_rfl) h0 | kernel_rfl), (by first | exact Eq.trans (by as_aux_lemma => kernel_rfl) h2 | kernel_rfl), (by first | exact Eq.trans (by as_aux_lemma => kernel_rfl) h4 | kernel_rfl), (by first | exact Eq.trans (by as_aux_lemma => kernel_rfl) h62 | kernel_rfl), (by first | exact Eq.trans (by as_aux_lemma => kernel_rfl) h63 | kernel_rfl), (by first | exact Eq.trans (by as_aux_lemma => kernel_rfl) h64 | kernel_rfl), (by first | exact Eq.trans (by as_aux_lemma => kernel_rfl) h66 | kernel_rfl), (by first | exact Eq.trans (by as_aux_lemma => kernel_rfl) h67 | kernel_rfl), (by first | exact Eq.trans (by as_aux_lemma => kernel_rfl) h8 | kernel_rfl), (by first | exact Eq.trans (by as_aux_lemma => kernel_rfl) h10 | kernel_rfl), (by first | exact Eq.trans (by as_aux_lemma => kernel_rfl) h12 | kernel_rfl), (by first | exact Eq.trans (by as_aux_lemma => kernel_rfl) h93 | kernel_rfl)⟩ (by first | exact Eq.trans (by as_aux_lemma => kernel_rfl) h96 | kernel_rfl) (by first | exact Eq.trans (by as_aux_lemma => kernel_rfl) h94 | kernel_rfl) (by first | exact Eq.trans (by as_aux_lemma => kernel_rfl) h95 | kernel_rfl) (by kernel_rfl) (by kernel_rfl) (by kernel_rfl) HGR.out HGS.out HOC.out ?_
  clear h6 h0 h2 h4 h62 h63 h64 h66 h67 h8 h10 h12 h93 h96 h94 h95 HSl m0 m4 m6 HGR HGS HOC hy1 hy2
  intro c' w' hSl' h96 h94 h95 hgr hgs hoc
  have HSl' := hid hSl'
  obtain ⟨h6, h0, h2, h4, h62, h63, h64, h66, h67, h8, h10, h12, h93⟩ := hSl'
  have HGR := hid hgr
  have HGS := hid hgs
  have HOC := hid hoc
  clear hgr hgs hoc
  unfold FRl
  go_wp2_with fail
  have z96 : (.int .i64 (b1 + (j : Int) + 1) : Value) = .int .i64 (b1 + ((j + 1 : Nat) : Int)) := by push_cast; rw [Int.add_assoc]
  have z94 : (.int .i64 (p1 + (j : Int) + 1) : Value) = .int .i64 (p1 + ((j + 1 : Nat) : Int)) := by push_cast; rw [Int.add_assoc]
  have z95 : (.int .i64 (q1 + (j : Int) + 1) : Value) = .int .i64 (q1 + ((j + 1 : Nat) : Int)) := by push_cast; rw [Int.add_assoc]
  exact HPx.out _ _ ⟨_, mkFR (by kernel_rfl), ⟨(by first | exact Eq.trans (by as_aux_lemma => kernel_rfl) h6 | kernel_rfl), (by first | exact Eq.trans (by as_aux_lemma => kernel_rfl) h0 | kernel_rfl), (by first | exact Eq.trans (by as_aux_lemma => kernel_rfl) h2 | kernel_rfl), (by first | exact Eq.trans (by as_aux_lemma => kernel_rfl) h4 | kernel_rfl), (by first | exact Eq.trans (by as_aux_lemma => kernel_rfl) h62 | kernel_rfl), (by first | exact Eq.trans (by as_aux_lemma => kernel_rfl) h63 | kernel_rfl), (by first | exact Eq.trans (by as_aux_lemma => kernel_rfl) h64 | kernel_rfl), (by first | exact Eq.trans (by as_aux_lemma => kernel_rfl) h66 | kernel_rfl), (by first | exact Eq.trans (by as_aux_lemma => kernel_rfl) h67 | kernel_rfl), (by first | exact Eq.trans (by as_aux_lemma => kernel_rfl) h8 | kernel_rfl), (by first | exact Eq.trans (by as_aux_lemma => kernel_rfl) h10 | kernel_rfl), (by first | exact Eq.trans (by as_aux_lemma => kernel_rfl) h12 | kernel_rfl), (by first | exact Eq.trans (by as_aux_lemma => kernel_rfl) h93 | kernel_rfl)⟩, (by first | exact Eq.trans (by as_aux_lemma => kernel_rfl) z96 | kernel_rfl), (by first | exact Eq.trans (by as_aux_lemma => kernel_rfl) z94 | kernel_rfl), (by first | exact Eq.trans (by as_aux_lemma => kernel_rfl) z95 | kernel_rfl), HGR.out, HGS.out, HOC.out⟩

set_option maxRecDepth 1000000 in
set_option maxHeartbeats 16000000 in
theorem slo0_end {w0 : World} {td ts tm : TypeId} {bd pd dh dw bs ps sh sw bm pm mh mw kd ks km rx ry xe ye sx sy mx my br bp bq bo n tt : Nat} {dx0 dy0 sx0 sy0 mx0 my0 b0 b1 p0 p1 q0 q1 : Int} {D S M F : Nat → Nat → Nat → Int} (C : CxS 0 w0 td ts tm bd pd dh dw bs ps sh sw bm pm mh mw kd ks km rx ry xe ye sx sy mx my br bp bq bo n tt dx0 dy0 sx0 sy0 mx0 my0 b0 b1 p0 p1 q0 q1 D S M F) (c : Nat → Value) (wr : World) (P' : Act → World → Prop) (Q0 : Exit → Act → World → Prop)
    (hSl : SlS 0 td ts tm bd bs bm br bp bq bo n tt b0 b1 c) (h96 : c 96 = .int .i64 (b1 + (tt : Int))) (hgr : w0.grownBy wr (some pd)) (hgs : Src wr bd pd dh dw dx0 dy0 (pt (fw rx xe ry tt 0) F D) kd td)
    (hQ : ∀ a' w', w0.grownBy w' (some pd) → Src w' bd pd dh dw dx0 dy0 (pt (fw rx xe ry tt 0) F D) kd td → a'.defers = [] → Q0 (.exit 17) a' w') : Code.wp Tryz.prog outerS (Exit.then P' Q0) ⟨FRl c, []⟩ wr := by
  have HQx := hid hQ
  obtain ⟨-, -, -, -, -, -, -, h66, -⟩ := hSl
  have hr1 : (b1 + (tt : Int) != b1 + (tt : Int)) = false := by rw [bne_eq_false_iff_eq]
  have HGR := hid hgr
  have HGS := hid hgs
  clear hQ hgr hgs C
  conv => arg 2; whnf
  unfold FRl
  go_wp2_with fail
  exact HQx.out _ _ HGR.out HGS.out rfl

set_option maxRecDepth 1000000 in
theorem slo0_lit {w0 : World} {td ts tm : TypeId} {bd pd dh dw bs ps sh sw bm pm mh mw kd ks km rx ry xe ye sx sy mx my br bp bq bo n tt : Nat} {dx0 dy0 sx0 sy0 mx0 my0 b0 b1 p0 p1 q0 q1 : Int} {D S M F : Nat → Nat → Nat → Int} (C : CxS 0 w0 td ts tm bd pd dh dw bs ps sh sw bm pm mh mw kd ks km rx ry xe ye sx sy mx my br bp bq bo n tt dx0 dy0 sx0 sy0 mx0 my0 b0 b1 p0 p1 q0 q1 D S M F) (w1 : World) (Q0 : Exit → Act → World → Prop) {L : List Value} (hL : L.length = 1124)
    (hSl : SlS 0 td ts tm bd bs bm br bp bq bo n tt b0 b1 (fun i => L.getD i undef)) (h96 : L.getD 96 undef = .int .i64 b1) (h94 : L.getD 94 undef = .int .i64 p1) (h95 : L.getD 95 undef = .int .i64 q1)
    (hg1 : w0.grownBy w1 none) (hoc : OutC w1 bo)
    (hQ : ∀ a' w', w0.grownBy w' (some pd) → Src w' bd pd dh dw dx0 dy0 (pt (fw rx xe ry tt 0) F D) kd td → a'.defers = [] → Q0 (.exit 17) a' w') :
    Code.wp Tryz.prog (Code.loop outerS) Q0 ⟨L.toArray, []⟩ w1 := by
  have hS0 := C.HD.kept0 hg1
  have h0 : OutS 0 w0 td ts tm bd pd dh dw bs bm kd rx ry xe br bp bq bo n tt dx0 dy0 b0 b1 p1 q1 D F 0 ⟨L.toArray, []⟩ w1 := ⟨_, mkFR hL, hSl, by rw [h96]; simp, by rw [h94]; simp, by rw [h95]; simp, gb_weak hg1 _, by rw [pt_no (fun r c => by unfold fw; omega)]; exact hS0, hoc⟩
  refine wp_loop (fun a' w' => ∃ j, j ≤ tt ∧ OutS 0 w0 td ts tm bd pd dh dw bs bm kd rx ry xe br bp bq bo n tt dx0 dy0 b0 b1 p1 q1 D F j a' w') (fun a' _ => (b1 + (tt : Int) - intOf (a'.tmps.getD 96 undef)).toNat) ⟨0, Nat.zero_le _, h0⟩ (fun a' w' hI' => ?_)
  obtain ⟨j, hj, c, rfl, g1, g2, g3, g4, g5, g6, g7⟩ := hI'
  by_cases hlt : j < tt
  · refine slo0_step C c w' j _ Q0 g1 g2 g3 g4 hlt g5 g6 g7 (fun a'' w'' hI'' => ⟨⟨j + 1, by omega, hI''⟩, ?_⟩)
    obtain ⟨c', rfl, -, h96', -⟩ := hI''
    have e : ∀ c : Nat → Value, (FRl c).getD 96 undef = c 96 := fun c => by kernel_rfl
    show (b1 + (tt : Int) - intOf ((FRl c').getD 96 undef)).toNat < (b1 + (tt : Int) - intOf ((FRl c).getD 96 undef)).toNat
    rw [e, e, g2, h96']
    simp only [intOf]
    omega
  · obtain rfl : j = tt := by omega
    exact slo0_end C c w' _ Q0 g1 g2 g5 g6 hQ
end Go.Proofs.YtgjpohmjkhgpfaaGreat
