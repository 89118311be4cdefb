/- image/draw: DrawMask's general loop through a mask, by Src. The images do not overlap. -/
import Derived.Test.YtgjpohmjkhgpfaaGreatHY4c
import Derived.Test.YtgjpohmjkhgpfaaGreatHY4d
set_option linter.unusedSimpArgs false
set_option linter.unusedVariables false
namespace Go.Proofs.YtgjpohmjkhgpfaaGreat
open Go.RowKit

set_option maxRecDepth 1000000 in
set_option maxHeartbeats 16000000 in
/-- the row's end -/
theorem in1_end {w0 : World} {td ts tm : TypeId} {bd pd dh dw bs ps sh sw bm pm mh mw kd ks km rx ry xe ye sx sy mx my br bp bq n tt : Nat} {dx0 dy0 sx0 sy0 mx0 my0 b0 b1 p0 p1 q0 q1 : Int} {D S M F : Nat → Nat → Nat → Int} (C : CxM 1 w0 td ts tm bd pd dh dw bs ps sh sw bm pm mh mw kd ks km rx ry xe ye sx sy mx my br bp bq n tt dx0 dy0 sx0 sy0 mx0 my0 b0 b1 p0 p1 q0 q1 D S M F) (c : Nat → Value) (wr : World) (j : Nat) (P' : Act → World → Prop) (Q0 : Exit → Act → World → Prop)
    (hSl : SlM 1 td ts tm bd bs bm br bp bq n tt b0 b1 c) (h85 : c 85 = .int .i64 (b1 + (j : Int))) (h83 : c 83 = .int .i64 (p1 + (j : Int))) (h84 : c 84 = .int .i64 (q1 + (j : Int))) (h88 : c 88 = .int .i64 (b0 + (n : Int))) (h86 : c 86 = .int .i64 (p0 + (n : Int))) (h87 : c 87 = .int .i64 (q0 + (n : Int)))
    (hgr : w0.grownBy wr (some pd)) (hgs : Src wr bd pd dh dw dx0 dy0 (pt (fw rx xe ry j n) F D) kd td)
    (hQ : ∀ a' w', InM 1 w0 td ts tm bd pd dh dw bs bm kd rx ry xe br bp bq n tt dx0 dy0 b0 b1 p0 p1 q0 q1 D F j n a' w' → Q0 (.exit 14) a' w') : Code.wp Tryz.prog innerM (Exit.then P' Q0) ⟨FRl c, []⟩ wr := by
  have HQx := hid hQ
  have HSl := hid hSl
  obtain ⟨-, -, -, -, -, h63, -⟩ := hSl
  have hr1 : (b0 + (n : Int) != b0 + (n : Int)) = false := by rw [bne_eq_false_iff_eq]
  have HGR := hid hgr
  have HGS := hid hgs
  clear hQ hgr hgs C
  conv => arg 2; whnf
  unfold FRl
  go_wp2_with fail
  obtain ⟨h6, h68, h70, h81, h62, h63, h64, h66, h67, h8, h10, h12⟩ := HSl.out
  exact HQx.out _ _ ⟨_, mkFR (by kernel_rfl), ⟨(by first | exact Eq.trans (by as_aux_lemma => kernel_rfl) h6 | kernel_rfl), (by first | exact Eq.trans (by as_aux_lemma => kernel_rfl) h68 | kernel_rfl), (by first | exact Eq.trans (by as_aux_lemma => kernel_rfl) h70 | kernel_rfl), (by first | exact Eq.trans (by as_aux_lemma => kernel_rfl) h81 | kernel_rfl), (by first | exact Eq.trans (by as_aux_lemma => kernel_rfl) h62 | kernel_rfl), (by first | exact Eq.trans (by as_aux_lemma => kernel_rfl) h63 | kernel_rfl), (by first | exact Eq.trans (by as_aux_lemma => kernel_rfl) h64 | kernel_rfl), (by first | exact Eq.trans (by as_aux_lemma => kernel_rfl) h66 | kernel_rfl), (by first | exact Eq.trans (by as_aux_lemma => kernel_rfl) h67 | kernel_rfl), (by first | exact Eq.trans (by as_aux_lemma => kernel_rfl) h8 | kernel_rfl), (by first | exact Eq.trans (by as_aux_lemma => kernel_rfl) h10 | kernel_rfl), (by first | exact Eq.trans (by as_aux_lemma => kernel_rfl) h12 | kernel_rfl)⟩, (by first | exact Eq.trans (by as_aux_lemma => kernel_rfl) h85 | kernel_rfl), (by first | exact Eq.trans (by as_aux_lemma => kernel_rfl) h83 | kernel_rfl), (by first | exact Eq.trans (by as_aux_lemma => kernel_rfl) h84 | kernel_rfl), (by first | exact Eq.trans (by as_aux_lemma => kernel_rfl) h88 | kernel_rfl), (by first | exact Eq.trans (by as_aux_lemma => kernel_rfl) h86 | kernel_rfl), (by first | exact Eq.trans (by as_aux_lemma => kernel_rfl) h87 | kernel_rfl), HGR.out, HGS.out⟩

theorem in1_round {w0 : World} {td ts tm : TypeId} {bd pd dh dw bs ps sh sw bm pm mh mw kd ks km rx ry xe ye sx sy mx my br bp bq n tt : Nat} {dx0 dy0 sx0 sy0 mx0 my0 b0 b1 p0 p1 q0 q1 : Int} {D S M F : Nat → Nat → Nat → Int} (C : CxM 1 w0 td ts tm bd pd dh dw bs ps sh sw bm pm mh mw kd ks km rx ry xe ye sx sy mx my br bp bq n tt dx0 dy0 sx0 sy0 mx0 my0 b0 b1 p0 p1 q0 q1 D S M F) (j k : Nat) (hj : j < tt) (hk : k ≤ n) (P' : Act → World → Prop) (Q0 : Exit → Act → World → Prop) (a : Act) (wr : World) (hI : InM 1 w0 td ts tm bd pd dh dw bs bm kd rx ry xe br bp bq n tt dx0 dy0 b0 b1 p0 p1 q0 q1 D F j k a wr)
    (hP : k < n → ∀ a' w', InM 1 w0 td ts tm bd pd dh dw bs bm kd rx ry xe br bp bq n tt dx0 dy0 b0 b1 p0 p1 q0 q1 D F j (k + 1) a' w' → P' a' w') (hQ : ∀ a' w', InM 1 w0 td ts tm bd pd dh dw bs bm kd rx ry xe br bp bq n tt dx0 dy0 b0 b1 p0 p1 q0 q1 D F j n a' w' → Q0 (.exit 14) a' w') : Code.wp Tryz.prog innerM (Exit.then P' Q0) a wr := by
  obtain ⟨c, rfl, hSl, h85, h83, h84, h88, h86, h87, hgr, hgs⟩ := hI
  by_cases hlt : k < n
  · by_cases hz : cl km (M (my + j) (mx + k)) 3 = 0
    · exact in1_z C c wr j k P' Q0 hSl h85 h83 h84 h88 h86 h87 hj hlt hgr hgs hz (hP hlt)
    · by_cases hz1 : cl km (M (my + j) (mx + k)) 3 = 65535
      · exact in1_f C c wr j k P' Q0 hSl h85 h83 h84 h88 h86 h87 hj hlt hgr hgs hz1 (hP hlt)
      · exact in1_d C c wr j k P' Q0 hSl h85 h83 h84 h88 h86 h87 hj hlt hgr hgs ⟨hz, hz1⟩ (hP hlt)
  · obtain rfl : k = n := by omega
    exact in1_end C c wr j P' Q0 hSl h85 h83 h84 h88 h86 h87 hgr hgs hQ

set_option maxRecDepth 1000000 in
theorem in1_loop {w0 : World} {td ts tm : TypeId} {bd pd dh dw bs ps sh sw bm pm mh mw kd ks km rx ry xe ye sx sy mx my br bp bq n tt : Nat} {dx0 dy0 sx0 sy0 mx0 my0 b0 b1 p0 p1 q0 q1 : Int} {D S M F : Nat → Nat → Nat → Int} (C : CxM 1 w0 td ts tm bd pd dh dw bs ps sh sw bm pm mh mw kd ks km rx ry xe ye sx sy mx my br bp bq n tt dx0 dy0 sx0 sy0 mx0 my0 b0 b1 p0 p1 q0 q1 D S M F) (j : Nat) (hj : j < tt) (Q0 : Exit → Act → World → Prop) (a : Act) (wr : World) (hI : InM 1 w0 td ts tm bd pd dh dw bs bm kd rx ry xe br bp bq n tt dx0 dy0 b0 b1 p0 p1 q0 q1 D F j 0 a wr)
    (hQ : ∀ a' w', InM 1 w0 td ts tm bd pd dh dw bs bm kd rx ry xe br bp bq n tt dx0 dy0 b0 b1 p0 p1 q0 q1 D F j n a' w' → Q0 (.exit 14) a' w') : Code.wp Tryz.prog (Code.loop innerM) Q0 a wr := by
  refine wp_loop (fun a' w' => ∃ k, k ≤ n ∧ InM 1 w0 td ts tm bd pd dh dw bs bm kd rx ry xe br bp bq n tt dx0 dy0 b0 b1 p0 p1 q0 q1 D F j k a' w') (fun a' _ => (b0 + (n : Int) - intOf (a'.tmps.getD 88 undef)).toNat) ⟨0, Nat.zero_le _, hI⟩ (fun a' w' hI' => ?_)
  obtain ⟨k, hk, hI'⟩ := hI'
  refine in1_round C j k hj hk _ Q0 a' w' hI' (fun hlt a'' w'' hI'' => ⟨⟨k + 1, by omega, hI''⟩, ?_⟩) hQ
  obtain ⟨c, rfl, -, -, -, -, h88, -⟩ := hI'
  obtain ⟨c', rfl, -, -, -, -, h88', -⟩ := hI''
  have e : ∀ c : Nat → Value, (FRl c).getD 88 undef = c 88 := fun c => by kernel_rfl
  show (b0 + (n : Int) - intOf ((FRl c').getD 88 undef)).toNat < (b0 + (n : Int) - intOf ((FRl c).getD 88 undef)).toNat
  rw [e, e, h88, h88']
  simp only [intOf]
  omega
theorem in1_lit {w0 : World} {td ts tm : TypeId} {bd pd dh dw bs ps sh sw bm pm mh mw kd ks km rx ry xe ye sx sy mx my br bp bq n tt : Nat} {dx0 dy0 sx0 sy0 mx0 my0 b0 b1 p0 p1 q0 q1 : Int} {D S M F : Nat → Nat → Nat → Int} (C : CxM 1 w0 td ts tm bd pd dh dw bs ps sh sw bm pm mh mw kd ks km rx ry xe ye sx sy mx my br bp bq n tt dx0 dy0 sx0 sy0 mx0 my0 b0 b1 p0 p1 q0 q1 D S M F) (j : Nat) (hj : j < tt) (Q0 : Exit → Act → World → Prop) {L : List Value} (wr : World) (hL : L.length = 1124)
    (hSl : SlM 1 td ts tm bd bs bm br bp bq n tt b0 b1 (fun i => L.getD i undef)) (h85 : L.getD 85 undef = .int .i64 (b1 + (j : Int))) (h83 : L.getD 83 undef = .int .i64 (p1 + (j : Int))) (h84 : L.getD 84 undef = .int .i64 (q1 + (j : Int)))
    (h88 : L.getD 88 undef = .int .i64 b0) (h86 : L.getD 86 undef = .int .i64 p0) (h87 : L.getD 87 undef = .int .i64 q0) (hgr : w0.grownBy wr (some pd)) (hgs : Src wr bd pd dh dw dx0 dy0 (pt (fw rx xe ry j 0) F D) kd td)
    (hQ : ∀ c w', SlM 1 td ts tm bd bs bm br bp bq n tt b0 b1 c → c 85 = .int .i64 (b1 + (j : Int)) → c 83 = .int .i64 (p1 + (j : Int)) → c 84 = .int .i64 (q1 + (j : Int)) → w0.grownBy w' (some pd) → Src w' bd pd dh dw dx0 dy0 (pt (fw rx xe ry (j + 1) 0) F D) kd td → Q0 (.exit 14) ⟨FRl c, []⟩ w') :
    Code.wp Tryz.prog (Code.loop innerM) Q0 ⟨L.toArray, []⟩ wr := by
  refine in1_loop C j hj Q0 _ wr ⟨_, mkFR hL, hSl, h85, h83, h84, by rw [h88]; simp, by rw [h86]; simp, by rw [h87]; simp, hgr, hgs⟩ (fun a' w' hI' => ?_)
  obtain ⟨c, rfl, g1, g2, g3, g4, -, -, -, g5, g6⟩ := hI'
  refine hQ c w' g1 g2 g3 g4 g5 ?_
  have := C.HL
  rw [← pt_eq (dn := fw rx xe ry j n) (fun r c => by unfold fw; omega)]
  exact g6

set_option maxRecDepth 1000000 in
set_option maxHeartbeats 16000000 in
theorem out1_step {w0 : World} {td ts tm : TypeId} {bd pd dh dw bs ps sh sw bm pm mh mw kd ks km rx ry xe ye sx sy mx my br bp bq n tt : Nat} {dx0 dy0 sx0 sy0 mx0 my0 b0 b1 p0 p1 q0 q1 : Int} {D S M F : Nat → Nat → Nat → Int} (C : CxM 1 w0 td ts tm bd pd dh dw bs ps sh sw bm pm mh mw kd ks km rx ry xe ye sx sy mx my br bp bq n tt dx0 dy0 sx0 sy0 mx0 my0 b0 b1 p0 p1 q0 q1 D S M F) (c : Nat → Value) (wr : World) (j : Nat) (P' : Act → World → Prop) (Q0 : Exit → Act → World → Prop)
    (hSl : SlM 1 td ts tm bd bs bm br bp bq n tt b0 b1 c) (h85 : c 85 = .int .i64 (b1 + (j : Int))) (h83 : c 83 = .int .i64 (p1 + (j : Int))) (h84 : c 84 = .int .i64 (q1 + (j : Int))) (hj : j < tt) (hgr : w0.grownBy wr (some pd)) (hgs : Src wr bd pd dh dw dx0 dy0 (pt (fw rx xe ry j 0) F D) kd td)
    (hP : ∀ a' w', OutM 1 w0 td ts tm bd pd dh dw bs bm kd rx ry xe br bp bq n tt dx0 dy0 b0 b1 p1 q1 D F (j + 1) a' w' → P' a' w') : Code.wp Tryz.prog outerM (Exit.then P' Q0) ⟨FRl c, []⟩ wr := by
  have HPx := hid hP
  have HSl := hid hSl
  obtain ⟨h6, h68, h70, h81, h62, h63, h64, h66, h67, h8, h10, h12⟩ := hSl
  have HCx := hid C
  have bb := C.HB
  have HGR := hid hgr
  have HGS := hid hgs
  have hy1 : (b1 + (j : Int) != b1 + (tt : Int)) = true := by rw [bne_iff_ne]; omega
  have hy2 : ¬ (j = tt) := by omega
  obtain ⟨k0, k1, k2, k3, k4, k5, k6, k7, -, -, -⟩ := C.HC
  have z1 : br < w0.heap.size := World.block_lt_of_cell? w0 _ k0
  have z2 : bp < w0.heap.size := World.block_lt_of_cell? w0 _ k4
  have z3 : bq < w0.heap.size := World.block_lt_of_cell? w0 _ k6
  have m0 := (gb_cell hgr (p := ⟨br, 0, none⟩) z1 C.m1).trans k0
  have m4 := (gb_cell hgr (p := ⟨bp, 0, none⟩) z2 C.m2).trans k4
  have m6 := (gb_cell hgr (p := ⟨bq, 0, none⟩) z3 C.m3).trans k6
  clear k0 k1 k2 k3 k4 k5 k6 k7 z1 z2 z3 hP hgr hgs C
  conv => arg 2; whnf
  unfold FRl
  go_wp2_with fail
  refine in1_lit HCx.out j hj _ wr (by kernel_rfl) ⟨(by first | exact Eq.trans (by as_aux_lemma => kernel_rfl) h6 | kernel_rfl), (by first | exact Eq.trans (by as_aux_lemma => kernel_rfl) h68 | kernel_rfl), (by first | exact Eq.trans (by as_aux_lemma => kernel_rfl) h70 | kernel_rfl), (by first | exact Eq.trans (by as_aux_lemma => kernel_rfl) h81 | kernel_rfl), (by first | exact Eq.trans (by as_aux_lemma => kernel_rfl) h62 | kernel_rfl), (by first | exact Eq.trans (by as_aux_lemma => kernel_rfl) h63 | kernel_rfl), (by first | exact Eq.trans (by as_aux_lemma => kernel_rfl) h64 | kernel_rfl), (by first | exact Eq.trans (by as_aux_lemma => kernel_rfl) h66 | kernel_rfl), (by first | exact Eq.trans (by as_aux_lemma => kernel_rfl) h67 | kernel_rfl), (by first | exact Eq.trans (by as_aux_lemma => kernel_rfl) h8 | kernel_rfl), (by first | exact Eq.trans (by as_aux_lemma => kernel_rfl) h10 | kernel_rfl), (by first | exact Eq.trans (by as_aux_lemma => kernel_rfl) h12 | kernel_rfl)⟩ (by first | exact Eq.trans (by as_aux_lemma => kernel_rfl) h85 | kernel_rfl) (by first | exact Eq.trans (by as_aux_lemma => kernel_rfl) h83 | kernel_rfl) (by first | exact Eq.trans (by as_aux_lemma => kernel_rfl) h84 | kernel_rfl) (by kernel_rfl) (by kernel_rfl) (by kernel_rfl) HGR.out HGS.out ?_
  clear h6 h68 h70 h81 h62 h63 h64 h66 h67 h8 h10 h12 h85 h83 h84 HSl m0 m4 m6 HGR HGS hy1 hy2
  intro c' w' hSl' h85 h83 h84 hgr hgs
  have HSl' := hid hSl'
  obtain ⟨h6, h68, h70, h81, h62, h63, h64, h66, h67, h8, h10, h12⟩ := hSl'
  have HGR := hid hgr
  have HGS := hid hgs
  clear hgr hgs
  unfold FRl
  go_wp2_with fail
  have z85 : (.int .i64 (b1 + (j : Int) + 1) : Value) = .int .i64 (b1 + ((j + 1 : Nat) : Int)) := by push_cast; rw [Int.add_assoc]
  have z83 : (.int .i64 (p1 + (j : Int) + 1) : Value) = .int .i64 (p1 + ((j + 1 : Nat) : Int)) := by push_cast; rw [Int.add_assoc]
  have z84 : (.int .i64 (q1 + (j : Int) + 1) : Value) = .int .i64 (q1 + ((j + 1 : Nat) : Int)) := by push_cast; rw [Int.add_assoc]
  exact HPx.out _ _ ⟨_, mkFR (by kernel_rfl), ⟨(by first | exact Eq.trans (by as_aux_lemma => kernel_rfl) h6 | kernel_rfl), (by first | exact Eq.trans (by as_aux_lemma => kernel_rfl) h68 | kernel_rfl), (by first | exact Eq.trans (by as_aux_lemma => kernel_rfl) h70 | kernel_rfl), (by first | exact Eq.trans (by as_aux_lemma => kernel_rfl) h81 | kernel_rfl), (by first | exact Eq.trans (by as_aux_lemma => kernel_rfl) h62 | kernel_rfl), (by first | exact Eq.trans (by as_aux_lemma => kernel_rfl) h63 | kernel_rfl), (by first | exact Eq.trans (by as_aux_lemma => kernel_rfl) h64 | kernel_rfl), (by first | exact Eq.trans (by as_aux_lemma => kernel_rfl) h66 | kernel_rfl), (by first | exact Eq.trans (by as_aux_lemma => kernel_rfl) h67 | kernel_rfl), (by first | exact Eq.trans (by as_aux_lemma => kernel_rfl) h8 | kernel_rfl), (by first | exact Eq.trans (by as_aux_lemma => kernel_rfl) h10 | kernel_rfl), (by first | exact Eq.trans (by as_aux_lemma => kernel_rfl) h12 | kernel_rfl)⟩, (by first | exact Eq.trans (by as_aux_lemma => kernel_rfl) z85 | kernel_rfl), (by first | exact Eq.trans (by as_aux_lemma => kernel_rfl) z83 | kernel_rfl), (by first | exact Eq.trans (by as_aux_lemma => kernel_rfl) z84 | kernel_rfl), HGR.out, HGS.out⟩

set_option maxRecDepth 1000000 in
set_option maxHeartbeats 16000000 in
theorem out1_end {w0 : World} {td ts tm : TypeId} {bd pd dh dw bs ps sh sw bm pm mh mw kd ks km rx ry xe ye sx sy mx my br bp bq n tt : Nat} {dx0 dy0 sx0 sy0 mx0 my0 b0 b1 p0 p1 q0 q1 : Int} {D S M F : Nat → Nat → Nat → Int} (C : CxM 1 w0 td ts tm bd pd dh dw bs ps sh sw bm pm mh mw kd ks km rx ry xe ye sx sy mx my br bp bq n tt dx0 dy0 sx0 sy0 mx0 my0 b0 b1 p0 p1 q0 q1 D S M F) (c : Nat → Value) (wr : World) (P' : Act → World → Prop) (Q0 : Exit → Act → World → Prop)
    (hSl : SlM 1 td ts tm bd bs bm br bp bq n tt b0 b1 c) (h85 : c 85 = .int .i64 (b1 + (tt : Int))) (hgr : w0.grownBy wr (some pd)) (hgs : Src wr bd pd dh dw dx0 dy0 (pt (fw rx xe ry tt 0) F D) kd td)
    (hQ : ∀ a' w', w0.grownBy w' (some pd) → Src w' bd pd dh dw dx0 dy0 (pt (fw rx xe ry tt 0) F D) kd td → a'.defers = [] → Q0 (.exit 12) a' w') : Code.wp Tryz.prog outerM (Exit.then P' Q0) ⟨FRl c, []⟩ wr := by
  have HQx := hid hQ
  obtain ⟨-, -, -, -, -, -, -, h66, -⟩ := hSl
  have hr1 : (b1 + (tt : Int) != b1 + (tt : Int)) = false := by rw [bne_eq_false_iff_eq]
  have HGR := hid hgr
  have HGS := hid hgs
  clear hQ hgr hgs C
  conv => arg 2; whnf
  unfold FRl
  go_wp2_with fail
  exact HQx.out _ _ HGR.out HGS.out rfl

set_option maxRecDepth 1000000 in
theorem out1_lit {w0 : World} {td ts tm : TypeId} {bd pd dh dw bs ps sh sw bm pm mh mw kd ks km rx ry xe ye sx sy mx my br bp bq n tt : Nat} {dx0 dy0 sx0 sy0 mx0 my0 b0 b1 p0 p1 q0 q1 : Int} {D S M F : Nat → Nat → Nat → Int} (C : CxM 1 w0 td ts tm bd pd dh dw bs ps sh sw bm pm mh mw kd ks km rx ry xe ye sx sy mx my br bp bq n tt dx0 dy0 sx0 sy0 mx0 my0 b0 b1 p0 p1 q0 q1 D S M F) (Q0 : Exit → Act → World → Prop) {L : List Value} (hL : L.length = 1124)
    (hSl : SlM 1 td ts tm bd bs bm br bp bq n tt b0 b1 (fun i => L.getD i undef)) (h85 : L.getD 85 undef = .int .i64 b1) (h83 : L.getD 83 undef = .int .i64 p1) (h84 : L.getD 84 undef = .int .i64 q1)
    (hQ : ∀ a' w', w0.grownBy w' (some pd) → Src w' bd pd dh dw dx0 dy0 (pt (fw rx xe ry tt 0) F D) kd td → a'.defers = [] → Q0 (.exit 12) a' w') :
    Code.wp Tryz.prog (Code.loop outerM) Q0 ⟨L.toArray, []⟩ w0 := by
  have h0 : OutM 1 w0 td ts tm bd pd dh dw bs bm kd rx ry xe br bp bq n tt dx0 dy0 b0 b1 p1 q1 D F 0 ⟨L.toArray, []⟩ w0 := ⟨_, mkFR hL, hSl, by rw [h85]; simp, by rw [h83]; simp, by rw [h84]; simp, gb_refl _ _, by rw [pt_no (fun r c => by unfold fw; omega)]; exact C.HD⟩
  refine wp_loop (fun a' w' => ∃ j, j ≤ tt ∧ OutM 1 w0 td ts tm bd pd dh dw bs bm kd rx ry xe br bp bq n tt dx0 dy0 b0 b1 p1 q1 D F j a' w') (fun a' _ => (b1 + (tt : Int) - intOf (a'.tmps.getD 85 undef)).toNat) ⟨0, Nat.zero_le _, h0⟩ (fun a' w' hI' => ?_)
  obtain ⟨j, hj, c, rfl, g1, g2, g3, g4, g5, g6⟩ := hI'
  by_cases hlt : j < tt
  · refine out1_step C c w' j _ Q0 g1 g2 g3 g4 hlt g5 g6 (fun a'' w'' hI'' => ⟨⟨j + 1, by omega, hI''⟩, ?_⟩)
    obtain ⟨c', rfl, -, h85', -⟩ := hI''
    have e : ∀ c : Nat → Value, (FRl c).getD 85 undef = c 85 := fun c => by kernel_rfl
    show (b1 + (tt : Int) - intOf ((FRl c').getD 85 undef)).toNat < (b1 + (tt : Int) - intOf ((FRl c).getD 85 undef)).toNat
    rw [e, e, g2, h85']
    simp only [intOf]
    omega
  · obtain rfl : j = tt := by omega
    exact out1_end C c w' _ Q0 g1 g2 g5 g6 hQ
end Go.Proofs.YtgjpohmjkhgpfaaGreat
