/- Parts of the proof: what the functions of the package and of the reference do (O1, N9, N10, LT, L7). No condition but those that each theorem names. -/
import Derived.Test.YtgjpohmjkhgpfaaGreatD02
import Derived.Test.YtgjpohmjkhgpfaaGreatD04
import Derived.Test.YtgjpohmjkhgpfaaGreatD14
import Derived.Test.YtgjpohmjkhgpfaaGreatD24
import Derived.Test.YtgjpohmjkhgpfaaGreatD25
import Derived.ProofKit
import Derived.OpenShut
import Derived.ChangeOld
import Derived.Below
import Derived.Deep.Fields
import Derived.Deep.RegionHeld3
import Derived.Deep.RegionWith
set_option linter.unusedSimpArgs false
set_option linter.unusedVariables false
namespace Go.Proofs.YtgjpohmjkhgpfaaGreat
open Go.ChangeShapes Go.WideShapes Go.ChangeAt Go.RowKit

theorem own : ownKnob Tryz.prog.godebug = none := by kernel_rfl
theorem laidOut : laidOutB Tryz.prog = true := by kernel_rfl
/-- an image that came in -/
def InI (w : World) (A : Option Addr) (n c : Nat) (p : Nat → Int) : Prop := Rd w A n p ∧ By p ∧ (∀ i, n ≤ i → p i = 0) ∧ n ≤ c ∧ c ≤ 9223372036854775807
section
variable {H : Type} {enc : TypeId × Value → H} {w : World} {base : Nat} {spare : Nat → Bool} {held : Bool}
theorem open_bytes {fuel : Nat} {v : Value} {y : DataW H × List MemPlace} (h : DataW.trod enc Tryz.prog w base spare held fuel 22 [v] = some y) :
    ∃ A n c p, v = .slice A n c ∧ InI w A n c p := by
  rcases open_ints Tryz.underlying22 Tryz.underlying5 (by kernel_rfl) h with ⟨hcs, _⟩ | ⟨a, l, c, zs, hcs, _, hl, hm, hz, _, hcell, hwf⟩
  · injection hcs with hcs; subst hcs
    exact ⟨none, 0, 0, fun _ => 0, rfl, Rd.nil _ _ _, fun _ => ⟨Int.le_refl 0, (by decide : (0 : Int) ≤ 255)⟩, fun _ _ => rfl, Nat.le_refl _, by omega⟩
  · injection hcs with hcs; subst hcs
    have hlz : l ≤ zs.length := by rw [hz]; split <;> omega
    refine ⟨some a, l, c, fun i => if i < l then zs.getD i 0 else 0, rfl, ?_, ?_, ?_, hl, by simp only [maxLen] at hm; omega⟩
    · intro hn
      refine ⟨a, rfl, ?_, fun i hi => ?_⟩
      · have := World.block_lt_of_cell? w _ (hcell 0 (by omega))
        rw [add_block] at this; exact this
      · rw [hcell i (by omega)]; show _ = some (Value.int .u8 (if i < l then zs.getD i 0 else 0)); rw [if_pos hi]
    · intro i
      dsimp only
      split
      · rename_i hi
        have hmem : zs.getD i 0 ∈ zs := by
          rw [List.getD_eq_getElem?_getD, List.getElem?_eq_getElem (by omega)]; exact List.getElem_mem _
        generalize zs.getD i 0 = z at hmem ⊢
        have := hwf _ hmem
        simp [Lit.wf, IntKind.min, IntKind.max, IntKind.signed, IntKind.bits] at this
        exact ⟨by omega, by omega⟩
      · exact ⟨by omega, by omega⟩
    · intro i hi
      exact if_neg (by omega)
set_option maxRecDepth 100000 in
theorem open_img {r : Reach} {b0 : Nat} {v : Value} {d : DataW H} {pl : List MemPlace} (hv : Value.okWide Tryz.prog w r b0 24 v) (h : DataW.Trod enc Tryz.prog w base spare held 24 v d pl) :
    ∃ k x0 y0 x1 y1 A n c p, v = .agg #[.int .i64 k, .int .i64 x0, .int .i64 y0, .int .i64 x1, .int .i64 y1, .slice A n c] ∧ InI w A n c p := by
  have hs := Tryz.underlying24
  obtain ⟨cs, rfl, hsz⟩ := okWide_struct hs hv
  obtain ⟨l⟩ := cs
  have hC : Tryz.prog.cellsOf 24 = 6 := by kernel_rfl
  have C3 : Tryz.prog.cellsOf 3 = 1 := by kernel_rfl
  have C22 : Tryz.prog.cellsOf 22 = 1 := by kernel_rfl
  match l, hsz.trans hC with
  | [c0, c1, c2, c3, c4, c5], _ =>
    obtain ⟨fuel, hf⟩ := h
    obtain ⟨xs, n, _, hx, _, hlen, hg⟩ := DataW.trod_struct hs hf
    match xs, hlen with
    | [y0, y1, y2, y3, y4, y5], _ =>
      obtain ⟨k0, e0, -, -⟩ := DataW.trod_int Tryz.underlying3 (show DataW.trod enc Tryz.prog w base spare held n 3 [c0] = some y0 by simpa [Value.cells, C3] using hg 0 _ rfl)
      obtain ⟨k1, e1, -, -⟩ := DataW.trod_int Tryz.underlying3 (show DataW.trod enc Tryz.prog w base spare held n 3 [c1] = some y1 by simpa [Value.cells, C3] using hg 1 _ rfl)
      obtain ⟨k2, e2, -, -⟩ := DataW.trod_int Tryz.underlying3 (show DataW.trod enc Tryz.prog w base spare held n 3 [c2] = some y2 by simpa [Value.cells, C3] using hg 2 _ rfl)
      obtain ⟨k3, e3, -, -⟩ := DataW.trod_int Tryz.underlying3 (show DataW.trod enc Tryz.prog w base spare held n 3 [c3] = some y3 by simpa [Value.cells, C3] using hg 3 _ rfl)
      obtain ⟨k4, e4, -, -⟩ := DataW.trod_int Tryz.underlying3 (show DataW.trod enc Tryz.prog w base spare held n 3 [c4] = some y4 by simpa [Value.cells, C3] using hg 4 _ rfl)
      obtain ⟨A, m, c, p, rfl, hI⟩ := open_bytes (show DataW.trod enc Tryz.prog w base spare held n 22 [c5] = some y5 by simpa [Value.cells, C22] using hg 5 _ rfl)
      injection e0 with e0; injection e1 with e1; injection e2 with e2; injection e3 with e3; injection e4 with e4
      subst e0 e1 e2 e3 e4
      exact ⟨k0, k1, k2, k3, k4, A, m, c, p, rfl, hI⟩
set_option maxRecDepth 100000 in
theorem open_four {r : Reach} {b0 : Nat} {v : Value} {d : DataW H} {pl : List MemPlace} (hv : Value.okWide Tryz.prog w r b0 25 v) (h : DataW.Trod enc Tryz.prog w base spare held 25 v d pl) :
    ∃ r0 r1 r2 r3, v = .agg #[.int .i64 r0, .int .i64 r1, .int .i64 r2, .int .i64 r3] := by
  have hs := Tryz.underlying25
  have hv' : ∃ cs, v = .agg cs ∧ cs.size = Tryz.prog.cellsOf 25 := by
    unfold Value.okWide at hv
    rw [hs] at hv
    obtain ⟨cs, e, hsz, _⟩ := hv
    exact ⟨cs, e, hsz⟩
  obtain ⟨cs, rfl, hsz⟩ := hv'
  obtain ⟨l⟩ := cs
  have hC : Tryz.prog.cellsOf 25 = 4 := by kernel_rfl
  have C3 : Tryz.prog.cellsOf 3 = 1 := by kernel_rfl
  match l, hsz.trans hC with
  | [c0, c1, c2, c3], _ =>
    obtain ⟨fuel, hf⟩ := h
    obtain ⟨xs, n, _, hx, _, hlen, hg⟩ := DataW.trod_array hs hf
    match xs, hlen with
    | [y0, y1, y2, y3], _ =>
      obtain ⟨k0, e0, -, -⟩ := DataW.trod_int Tryz.underlying3 (show DataW.trod enc Tryz.prog w base spare held n 3 [c0] = some y0 by simpa [Value.cells, C3] using hg 0 (by omega))
      obtain ⟨k1, e1, -, -⟩ := DataW.trod_int Tryz.underlying3 (show DataW.trod enc Tryz.prog w base spare held n 3 [c1] = some y1 by simpa [Value.cells, C3] using hg 1 (by omega))
      obtain ⟨k2, e2, -, -⟩ := DataW.trod_int Tryz.underlying3 (show DataW.trod enc Tryz.prog w base spare held n 3 [c2] = some y2 by simpa [Value.cells, C3] using hg 2 (by omega))
      obtain ⟨k3, e3, -, -⟩ := DataW.trod_int Tryz.underlying3 (show DataW.trod enc Tryz.prog w base spare held n 3 [c3] = some y3 by simpa [Value.cells, C3] using hg 3 (by omega))
      injection e0 with e0; injection e1 with e1; injection e2 with e2; injection e3 with e3
      subst e0 e1 e2 e3
      exact ⟨k0, k1, k2, k3, rfl⟩
end
end Go.Proofs.YtgjpohmjkhgpfaaGreat

namespace Go.Proofs.YtgjpohmjkhgpfaaGreat
open Go.RowKit

theorem boxm_kept {w w' : World} {br bs bm n' cs n'' cm : Nat} {r0 r1 r2 r3 ks X0 Y0 X1 Y1 km Xm0 Ym0 Xm1 Ym1 : Int} {As Am : Option Addr} (h : w.cell? ⟨br, 0, none⟩ = some (.int .i64 r0) ∧ w.cell? ⟨br, 1, none⟩ = some (.int .i64 r1) ∧ w.cell? ⟨br, 2, none⟩ = some (.int .i64 r2) ∧ w.cell? ⟨br, 3, none⟩ = some (.int .i64 r3) ∧ w.cell? ⟨bs, 0, none⟩ = some (.int .i64 ks) ∧ w.cell? ⟨bs, 1, none⟩ = some (.int .i64 X0) ∧ w.cell? ⟨bs, 2, none⟩ = some (.int .i64 Y0) ∧ w.cell? ⟨bs, 3, none⟩ = some (.int .i64 X1) ∧ w.cell? ⟨bs, 4, none⟩ = some (.int .i64 Y1) ∧ w.cell? ⟨bs, 5, none⟩ = some (.slice As n' cs) ∧ w.cell? ⟨bm, 0, none⟩ = some (.int .i64 km) ∧ w.cell? ⟨bm, 1, none⟩ = some (.int .i64 Xm0) ∧ w.cell? ⟨bm, 2, none⟩ = some (.int .i64 Ym0) ∧ w.cell? ⟨bm, 3, none⟩ = some (.int .i64 Xm1) ∧ w.cell? ⟨bm, 4, none⟩ = some (.int .i64 Ym1) ∧ w.cell? ⟨bm, 5, none⟩ = some (.slice Am n'' cm)) (hg : w.grownBy w' none) : w'.cell? ⟨br, 0, none⟩ = some (.int .i64 r0) ∧ w'.cell? ⟨br, 1, none⟩ = some (.int .i64 r1) ∧ w'.cell? ⟨br, 2, none⟩ = some (.int .i64 r2) ∧ w'.cell? ⟨br, 3, none⟩ = some (.int .i64 r3) ∧ w'.cell? ⟨bs, 0, none⟩ = some (.int .i64 ks) ∧ w'.cell? ⟨bs, 1, none⟩ = some (.int .i64 X0) ∧ w'.cell? ⟨bs, 2, none⟩ = some (.int .i64 Y0) ∧ w'.cell? ⟨bs, 3, none⟩ = some (.int .i64 X1) ∧ w'.cell? ⟨bs, 4, none⟩ = some (.int .i64 Y1) ∧ w'.cell? ⟨bs, 5, none⟩ = some (.slice As n' cs) ∧ w'.cell? ⟨bm, 0, none⟩ = some (.int .i64 km) ∧ w'.cell? ⟨bm, 1, none⟩ = some (.int .i64 Xm0) ∧ w'.cell? ⟨bm, 2, none⟩ = some (.int .i64 Ym0) ∧ w'.cell? ⟨bm, 3, none⟩ = some (.int .i64 Xm1) ∧ w'.cell? ⟨bm, 4, none⟩ = some (.int .i64 Ym1) ∧ w'.cell? ⟨bm, 5, none⟩ = some (.slice Am n'' cm) := by
  obtain ⟨a0, a1, a2, a3, a4, a5, a6, a7, a8, a9, a10, a11, a12, a13, a14, a15⟩ := h
  have k := fun {b i : Nat} {v : Value} (hc : w.cell? ⟨b, i, none⟩ = some v) => (gb_cell0 hg (p := ⟨b, i, none⟩) (World.block_lt_of_cell? w _ hc)).trans hc
  exact ⟨k a0, k a1, k a2, k a3, k a4, k a5, k a6, k a7, k a8, k a9, k a10, k a11, k a12, k a13, k a14, k a15⟩

set_option maxRecDepth 100000 in
set_option maxHeartbeats 8000000 in
theorem zzdrawmask_of {w : World} {kd ks km n n' n'' cd cs cm : Nat} {Xd0 Yd0 Xd1 Yd1 dx0 dy0 dx1 dy1 X0 Y0 X1 Y1 sx0 sy0 sx1 sy1 Xm0 Ym0 Xm1 Ym1 mx0 my0 mx1 my1 r0 r1 r2 r3 px py qx qy op : Int} {p s m q : Nat → Int} {Ad As Am : Option Addr} (hkd : kd = 0 ∨ kd = 2 ∨ kd = 4)
    (hd : Rd w Ad n p) (hs : Rd w As n' s) (hm : Rd w Am n'' m) (Dd : Dat kd Xd0 Yd0 Xd1 Yd1 dx0 dy0 dx1 dy1 n p) (Ds : Dat ks X0 Y0 X1 Y1 sx0 sy0 sx1 sy1 n' s) (Dm : Dat km Xm0 Ym0 Xm1 Ym1 mx0 my0 mx1 my1 n'' m)
    (H : ∀ (w' : World) (B B' B'' c c' c'' b b' b'' : Nat) (A A' A'' : Option Addr) (td ts tm : TypeId), IM w' B dx0 dy0 dx1 dy1 n p A c b kd td → IM w' B' sx0 sy0 sx1 sy1 n' s A' c' b' ks ts → IM w' B'' mx0 my0 mx1 my1 n'' m A'' c'' b'' km tm → Apart A b' A' → Apart A b'' A'' →
      Calls Tryz.prog 42 #[.iface td (.pointer (some ⟨b, 0, none⟩)), vR r0 r1 r2 r3, .iface ts (.pointer (some ⟨b', 0, none⟩)), vP px py, .iface tm (.pointer (some ⟨b'', 0, none⟩)), vP qx qy, .int .i64 op] w' (DMout w' B n c A q)) :
    Calls Tryz.prog 35 #[vI kd Xd0 Yd0 Xd1 Yd1 Ad n cd, vR r0 r1 r2 r3, vI ks X0 Y0 X1 Y1 As n' cs, .int .i64 px, .int .i64 py, vI km Xm0 Ym0 Xm1 Ym1 Am n'' cm, .int .i64 qx, .int .i64 qy, .int .i64 op] w (Out w n q) := by
  have hk6 : kd ≠ 6 := by omega
  have HH := hid H
  have Hd := hid hd
  have Hs := hid hs
  have Hm := hid hm
  have HDd := hid Dd
  have HDs := hid Ds
  have HDm := hid Dm
  have Hk := hid hkd
  clear H hd hs hm Dd Ds Dm hkd
  go_enter Tryz.func35, Tryz.ntmps35
  go_wp2_with fail
  refine (make_d _ (Hd.out.kept0 (gb_alloc (gb_alloc (gb_alloc (gb_alloc (gb_refl _ _) _) _) _) _)) HDd.out).mono ?_
  rintro e w1 ⟨td, b, A, c, rfl, hI, hg⟩
  have HT := hid (hI.tdst Hk.out)
  have TA := fun (w' : World) => ta_draw (a := ⟨b, 0, none⟩) HT.out w'
  have HI := hid hI
  have Hg := hid hg
  obtain ⟨cc, ff⟩ := gb_rules hg
  have hz := hg.size
  simp at hz
  have hb : b < w1.heap.size := hI.ge.2
  have hbB := hI.ge.1
  simp at hbB
  have hb0 := boxm_kept (br := w.heap.size + 1) (bs := w.heap.size + 2) (bm := w.heap.size + 3) (ks := ks) (X0 := X0) (Y0 := Y0) (X1 := X1) (Y1 := Y1) (As := As) (n' := n') (cs := cs) (km := km) (Xm0 := Xm0) (Ym0 := Ym0) (Xm1 := Xm1) (Ym1 := Ym1) (Am := Am) (n'' := n'') (cm := cm) (r0 := r0) (r1 := r1) (r2 := r2) (r3 := r3) ⟨by go_simp, by go_simp, by go_simp, by go_simp, by go_simp, by go_simp, by go_simp, by go_simp, by go_simp, by go_simp, by go_simp, by go_simp, by go_simp, by go_simp, by go_simp, by go_simp⟩ (gb_refl ((((w.alloc (.cells #[.int .i64 kd, .int .i64 Xd0, .int .i64 Yd0, .int .i64 Xd1, .int .i64 Yd1, .slice Ad n cd] 64)).alloc (.cells #[.int .i64 r0, .int .i64 r1, .int .i64 r2, .int .i64 r3] 25)).alloc (.cells #[.int .i64 ks, .int .i64 X0, .int .i64 Y0, .int .i64 X1, .int .i64 Y1, .slice As n' cs] 64)).alloc (.cells #[.int .i64 km, .int .i64 Xm0, .int .i64 Ym0, .int .i64 Xm1, .int .i64 Ym1, .slice Am n'' cm] 64)) none)
  have HB0 := hid hb0
  have HBX := hid (boxm_kept hb0 hg)
  clear hb0
  have HG1 := hid (gb_trans (gb_alloc (gb_alloc (gb_alloc (gb_alloc (gb_refl w none) _) _) _) _) hg)
  clear hI hg cc ff
  go_wp2_with fail
  have x1 : w.heap.size + 1 < w1.heap.size := by omega
  have x2 : w.heap.size + 2 < w1.heap.size := by omega
  have x3 : w.heap.size + 3 < w1.heap.size := by omega
  obtain ⟨a0, a1, a2, a3, a4, a5, a6, a7, a8, a9, a10, a11, a12, a13, a14, a15⟩ := HBX.out
  go_region_held3 (fun W => W.cell? ⟨w.heap.size + 1, 0, none⟩ = some (.int .i64 r0) ∧ W.cell? ⟨w.heap.size + 1, 1, none⟩ = some (.int .i64 r1) ∧ W.cell? ⟨w.heap.size + 1, 2, none⟩ = some (.int .i64 r2) ∧ W.cell? ⟨w.heap.size + 1, 3, none⟩ = some (.int .i64 r3) ∧ W.cell? ⟨w.heap.size + 2, 0, none⟩ = some (.int .i64 ks) ∧ W.cell? ⟨w.heap.size + 2, 1, none⟩ = some (.int .i64 X0) ∧ W.cell? ⟨w.heap.size + 2, 2, none⟩ = some (.int .i64 Y0) ∧ W.cell? ⟨w.heap.size + 2, 3, none⟩ = some (.int .i64 X1) ∧ W.cell? ⟨w.heap.size + 2, 4, none⟩ = some (.int .i64 Y1) ∧ W.cell? ⟨w.heap.size + 2, 5, none⟩ = some (.slice As n' cs) ∧ W.cell? ⟨w.heap.size + 3, 0, none⟩ = some (.int .i64 km) ∧ W.cell? ⟨w.heap.size + 3, 1, none⟩ = some (.int .i64 Xm0) ∧ W.cell? ⟨w.heap.size + 3, 2, none⟩ = some (.int .i64 Ym0) ∧ W.cell? ⟨w.heap.size + 3, 3, none⟩ = some (.int .i64 Xm1) ∧ W.cell? ⟨w.heap.size + 3, 4, none⟩ = some (.int .i64 Ym1) ∧ W.cell? ⟨w.heap.size + 3, 5, none⟩ = some (.slice Am n'' cm)) (first | go_simp | assumption)
    (first
    | (go_at_call 43; refine (zrect_c r0 r1 r2 r3 _).mono ?_; rintro e w2 ⟨rfl, hg2⟩
       have HS2 := boxm_kept (by assumption) hg2
       have HG2 := hid (gb_trans (gb_drew HG1.out) hg2)
       have HR2 := hid hg2
       have HI2 := hid (HI.out.kept0 (gb_trans (gb_drew (gb_refl _ _)) hg2))
       clear hg2)
    | (go_at_call_of 41 (Value.slice As n' cs); refine (make_d _ (Hs.out.kept0 HG2.out) HDs.out).mono ?_; rintro e w3 ⟨ts, b', A', c', rfl, hI3, hg3⟩
       have HS3 := boxm_kept (by assumption) hg3
       have HG3 := hid (gb_trans HG2.out hg3)
       have HR3 := hid hg3
       have HI3 := hid (HI2.out.kept0 hg3)
       have HJ3 := hid hI3
       have hz2 := HG2.out.size
       have HAP : Hid (Apart A b' A') := hid (fun a ha => by
         have q1 := (HI2.out.alt a ha).1
         have q2 := hI3.ge.1
         exact ⟨by omega, fun a' ha' => by have q3 := (hI3.alt a' ha').2; omega⟩)
       clear hg3 hI3)
    | (go_at_call_of 41 (Value.slice Am n'' cm); refine (make_d _ (Hm.out.kept0 HG3.out) HDm.out).mono ?_; rintro e w4 ⟨tm, b'', A'', c'', rfl, hI4, hg4⟩
       have HS4 := boxm_kept (by assumption) hg4
       have HG4 := hid (gb_trans HG3.out hg4)
       have HR4 := hid hg4
       have HI4 := hid (HI3.out.kept0 hg4)
       have HJ4 := hid (HJ3.out.kept0 hg4)
       have HM4 := hid hI4
       have hz3 := HG3.out.size
       have HAQ : Hid (Apart A b'' A'') := hid (fun a ha => by
         have q1 := (HI3.out.alt a ha).1
         have q2 := hI4.ge.1
         exact ⟨by omega, fun a' ha' => by have q3 := (hI4.alt a' ha').2; omega⟩)
       clear hg4 hI4)
    | (go_at_call 42; refine (HH.out _ w.heap.size _ _ _ _ _ _ _ _ _ _ _ _ _ _ (HI4.out.low (by simp <;> omega)) HJ4.out HM4.out HAP.out HAQ.out).mono ?_; rintro e w5 ⟨rfl, h4, h5⟩
       have hGW := gb_trans (gb_drew Hg.out) (gb_trans HR2.out (gb_trans HR3.out HR4.out))
       have hIW := HI4.out
       have hal := HI.out.alt
       have HG5 := gb_new hGW h4 (fun g hg => by
         cases hA : A with
         | none => rw [hA] at hg; cases hg
         | some a => rw [hA] at hg; injection hg with hg; subst hg; exact (hal a hA).2)
       have HS5 := boxm_kept HB0.out HG5
       have HC5 := (World.cell?_of_block (h4.block b hIW.ge.2 (fun e => by
         cases hA : A with
         | none => rw [hA] at e; cases e
         | some a => rw [hA] at e; injection e with e; exact hIW.ne hk6 a hA e.symm))).trans (hIW.cell0 hk6)
       have HF := hid (And.intro h5 (gb_trans (gb_alloc (gb_alloc (gb_alloc (gb_alloc (gb_refl w none) _) _) _) _) HG5))
       clear h4 h5 hGW hIW hal))
  all_goals (
    go_wp2_with fail
    refine (pixels_c HT.out HC5).mono ?_
    rintro e w6 ⟨rfl, rfl⟩
    go_wp2_with fail
    go_ret
    exact ⟨_, _, rfl, HF.out.1, HF.out.2⟩)
end Go.Proofs.YtgjpohmjkhgpfaaGreat

namespace Go.Proofs.YtgjpohmjkhgpfaaGreat
open Go.RowKit

theorem box4_kept {w w' : World} {bd br bs bm n n' n'' cd cs cm : Nat} {r0 r1 r2 r3 kd Xd0 Yd0 Xd1 Yd1 ks X0 Y0 X1 Y1 km Xm0 Ym0 Xm1 Ym1 : Int} {Ad As Am : Option Addr} (h : w.cell? ⟨bd, 0, none⟩ = some (.int .i64 kd) ∧ w.cell? ⟨bd, 1, none⟩ = some (.int .i64 Xd0) ∧ w.cell? ⟨bd, 2, none⟩ = some (.int .i64 Yd0) ∧ w.cell? ⟨bd, 3, none⟩ = some (.int .i64 Xd1) ∧ w.cell? ⟨bd, 4, none⟩ = some (.int .i64 Yd1) ∧ w.cell? ⟨bd, 5, none⟩ = some (.slice Ad n cd) ∧ w.cell? ⟨br, 0, none⟩ = some (.int .i64 r0) ∧ w.cell? ⟨br, 1, none⟩ = some (.int .i64 r1) ∧ w.cell? ⟨br, 2, none⟩ = some (.int .i64 r2) ∧ w.cell? ⟨br, 3, none⟩ = some (.int .i64 r3) ∧ w.cell? ⟨bs, 0, none⟩ = some (.int .i64 ks) ∧ w.cell? ⟨bs, 1, none⟩ = some (.int .i64 X0) ∧ w.cell? ⟨bs, 2, none⟩ = some (.int .i64 Y0) ∧ w.cell? ⟨bs, 3, none⟩ = some (.int .i64 X1) ∧ w.cell? ⟨bs, 4, none⟩ = some (.int .i64 Y1) ∧ w.cell? ⟨bs, 5, none⟩ = some (.slice As n' cs) ∧ w.cell? ⟨bm, 0, none⟩ = some (.int .i64 km) ∧ w.cell? ⟨bm, 1, none⟩ = some (.int .i64 Xm0) ∧ w.cell? ⟨bm, 2, none⟩ = some (.int .i64 Ym0) ∧ w.cell? ⟨bm, 3, none⟩ = some (.int .i64 Xm1) ∧ w.cell? ⟨bm, 4, none⟩ = some (.int .i64 Ym1) ∧ w.cell? ⟨bm, 5, none⟩ = some (.slice Am n'' cm)) (hg : w.grownBy w' none) : w'.cell? ⟨bd, 0, none⟩ = some (.int .i64 kd) ∧ w'.cell? ⟨bd, 1, none⟩ = some (.int .i64 Xd0) ∧ w'.cell? ⟨bd, 2, none⟩ = some (.int .i64 Yd0) ∧ w'.cell? ⟨bd, 3, none⟩ = some (.int .i64 Xd1) ∧ w'.cell? ⟨bd, 4, none⟩ = some (.int .i64 Yd1) ∧ w'.cell? ⟨bd, 5, none⟩ = some (.slice Ad n cd) ∧ w'.cell? ⟨br, 0, none⟩ = some (.int .i64 r0) ∧ w'.cell? ⟨br, 1, none⟩ = some (.int .i64 r1) ∧ w'.cell? ⟨br, 2, none⟩ = some (.int .i64 r2) ∧ w'.cell? ⟨br, 3, none⟩ = some (.int .i64 r3) ∧ w'.cell? ⟨bs, 0, none⟩ = some (.int .i64 ks) ∧ w'.cell? ⟨bs, 1, none⟩ = some (.int .i64 X0) ∧ w'.cell? ⟨bs, 2, none⟩ = some (.int .i64 Y0) ∧ w'.cell? ⟨bs, 3, none⟩ = some (.int .i64 X1) ∧ w'.cell? ⟨bs, 4, none⟩ = some (.int .i64 Y1) ∧ w'.cell? ⟨bs, 5, none⟩ = some (.slice As n' cs) ∧ w'.cell? ⟨bm, 0, none⟩ = some (.int .i64 km) ∧ w'.cell? ⟨bm, 1, none⟩ = some (.int .i64 Xm0) ∧ w'.cell? ⟨bm, 2, none⟩ = some (.int .i64 Ym0) ∧ w'.cell? ⟨bm, 3, none⟩ = some (.int .i64 Xm1) ∧ w'.cell? ⟨bm, 4, none⟩ = some (.int .i64 Ym1) ∧ w'.cell? ⟨bm, 5, none⟩ = some (.slice Am n'' cm) := by
  obtain ⟨a0, a1, a2, a3, a4, a5, a6, a7, a8, a9, a10, a11, a12, a13, a14, a15, a16, a17, a18, a19, a20, a21⟩ := h
  have k := fun {b i : Nat} {v : Value} (hc : w.cell? ⟨b, i, none⟩ = some v) => (gb_cell0 hg (p := ⟨b, i, none⟩) (World.block_lt_of_cell? w _ hc)).trans hc
  exact ⟨k a0, k a1, k a2, k a3, k a4, k a5, k a6, k a7, k a8, k a9, k a10, k a11, k a12, k a13, k a14, k a15, k a16, k a17, k a18, k a19, k a20, k a21⟩

set_option maxRecDepth 100000 in
set_option maxHeartbeats 8000000 in
theorem idrawmask_of {w : World} {kd ks km n n' n'' cd cs cm : Nat} {Xd0 Yd0 Xd1 Yd1 dx0 dy0 dx1 dy1 X0 Y0 X1 Y1 sx0 sy0 sx1 sy1 Xm0 Ym0 Xm1 Ym1 mx0 my0 mx1 my1 r0 r1 r2 r3 px py qx qy op : Int} {p s m q : Nat → Int} {Ad As Am : Option Addr} (hkd : kd = 0 ∨ kd = 2 ∨ kd = 4)
    (hd : Rd w Ad n p) (hs : Rd w As n' s) (hm : Rd w Am n'' m) (Dd : Dat kd Xd0 Yd0 Xd1 Yd1 dx0 dy0 dx1 dy1 n p) (Ds : Dat ks X0 Y0 X1 Y1 sx0 sy0 sx1 sy1 n' s) (Dm : Dat km Xm0 Ym0 Xm1 Ym1 mx0 my0 mx1 my1 n'' m)
    (H : ∀ (w' : World) (B B' B'' c c' c'' b b' b'' : Nat) (A A' A'' : Option Addr) (td ts tm : TypeId), IM w' B dx0 dy0 dx1 dy1 n p A c b kd td → IM w' B' sx0 sy0 sx1 sy1 n' s A' c' b' ks ts → IM w' B'' mx0 my0 mx1 my1 n'' m A'' c'' b'' km tm → Apart A b' A' → Apart A b'' A'' →
      Calls Tryz.prog 42 #[.iface td (.pointer (some ⟨b, 0, none⟩)), vR r0 r1 r2 r3, .iface ts (.pointer (some ⟨b', 0, none⟩)), vP px py, .iface tm (.pointer (some ⟨b'', 0, none⟩)), vP qx qy, .int .i64 op] w' (DMout w' B n c A q)) :
    Calls Tryz.prog 21 #[vI kd Xd0 Yd0 Xd1 Yd1 Ad n cd, vR r0 r1 r2 r3, vI ks X0 Y0 X1 Y1 As n' cs, .int .i64 px, .int .i64 py, vI km Xm0 Ym0 Xm1 Ym1 Am n'' cm, .int .i64 qx, .int .i64 qy, .int .i64 op] w (Out w n q) := by
  have HH := hid H
  have Hd := hid hd
  have Hs := hid hs
  have Hm := hid hm
  have HDd := hid Dd
  have HDs := hid Ds
  have HDm := hid Dm
  have Hk := hid hkd
  clear H hd hs hm Dd Ds Dm hkd
  go_enter Tryz.func21, Tryz.ntmps21
  go_wp2_with fail
  have HX := hid (gb_trans (gb_refl w none) (gb_alloc (gb_alloc (gb_alloc (gb_alloc (gb_refl w none) (.cells #[.int .i64 kd, .int .i64 Xd0, .int .i64 Yd0, .int .i64 Xd1, .int .i64 Yd1, .slice Ad n cd] 24)) (.cells #[.int .i64 r0, .int .i64 r1, .int .i64 r2, .int .i64 r3] 25)) (.cells #[.int .i64 ks, .int .i64 X0, .int .i64 Y0, .int .i64 X1, .int .i64 Y1, .slice As n' cs] 24)) (.cells #[.int .i64 km, .int .i64 Xm0, .int .i64 Ym0, .int .i64 Xm1, .int .i64 Ym1, .slice Am n'' cm] 24)))
  go_region_held3 (fun W => W.cell? ⟨w.heap.size, 0, none⟩ = some (.int .i64 kd) ∧ W.cell? ⟨w.heap.size, 1, none⟩ = some (.int .i64 Xd0) ∧ W.cell? ⟨w.heap.size, 2, none⟩ = some (.int .i64 Yd0) ∧ W.cell? ⟨w.heap.size, 3, none⟩ = some (.int .i64 Xd1) ∧ W.cell? ⟨w.heap.size, 4, none⟩ = some (.int .i64 Yd1) ∧ W.cell? ⟨w.heap.size, 5, none⟩ = some (.slice Ad n cd) ∧ W.cell? ⟨w.heap.size + 1, 0, none⟩ = some (.int .i64 r0) ∧ W.cell? ⟨w.heap.size + 1, 1, none⟩ = some (.int .i64 r1) ∧ W.cell? ⟨w.heap.size + 1, 2, none⟩ = some (.int .i64 r2) ∧ W.cell? ⟨w.heap.size + 1, 3, none⟩ = some (.int .i64 r3) ∧ W.cell? ⟨w.heap.size + 2, 0, none⟩ = some (.int .i64 ks) ∧ W.cell? ⟨w.heap.size + 2, 1, none⟩ = some (.int .i64 X0) ∧ W.cell? ⟨w.heap.size + 2, 2, none⟩ = some (.int .i64 Y0) ∧ W.cell? ⟨w.heap.size + 2, 3, none⟩ = some (.int .i64 X1) ∧ W.cell? ⟨w.heap.size + 2, 4, none⟩ = some (.int .i64 Y1) ∧ W.cell? ⟨w.heap.size + 2, 5, none⟩ = some (.slice As n' cs) ∧ W.cell? ⟨w.heap.size + 3, 0, none⟩ = some (.int .i64 km) ∧ W.cell? ⟨w.heap.size + 3, 1, none⟩ = some (.int .i64 Xm0) ∧ W.cell? ⟨w.heap.size + 3, 2, none⟩ = some (.int .i64 Ym0) ∧ W.cell? ⟨w.heap.size + 3, 3, none⟩ = some (.int .i64 Xm1) ∧ W.cell? ⟨w.heap.size + 3, 4, none⟩ = some (.int .i64 Ym1) ∧ W.cell? ⟨w.heap.size + 3, 5, none⟩ = some (.slice Am n'' cm)) (first | go_simp | assumption)
    (first
    | (go_at_call_of 36 (Value.slice Ad n cd); refine (image_c _ (Hd.out.kept0 (gb_drew HX.out)) HDd.out.2.2.1).mono ?_; rintro e w2 ⟨A, c, rfl, ho2, hg2⟩
       have HS2 := box4_kept (by assumption) hg2
       have HG2 := hid (gb_trans (gb_drew HX.out) hg2)
       have HO2 := hid ho2
       clear hg2 ho2)
    | (go_at_call_of 36 (Value.slice As n' cs); refine (image_c _ (Hs.out.kept0 HG2.out) HDs.out.2.2.1).mono ?_; rintro e w3 ⟨A', c', rfl, ho3, hg3⟩
       have HS3 := box4_kept (by assumption) hg3
       have HG3 := hid (gb_trans HG2.out hg3)
       have HO3 := hid ho3
       have HO2' := hid (HO2.out.kept0 hg3)
       clear hg3 ho3)
    | (go_at_call_of 36 (Value.slice Am n'' cm); refine (image_c _ (Hm.out.kept0 HG3.out) HDm.out.2.2.1).mono ?_; rintro e w4 ⟨A'', c'', rfl, ho4, hg4⟩
       have HS4 := box4_kept (by assumption) hg4
       have HG4 := hid (gb_trans HG3.out hg4)
       have HO4 := hid ho4
       have HO3' := hid (HO3.out.kept0 hg4)
       have HO2'' := hid (HO2'.out.kept0 hg4)
       clear hg4 ho4)
    | (go_at_call 35; refine (zzdrawmask_of Hk.out HO2''.out.rd HO3'.out.rd HO4.out.rd HDd.out HDs.out HDm.out HH.out).mono ?_; rintro e w5 ⟨A5, c5, rfl, ho5, hg5⟩
       have HS5 := box4_kept (by assumption) hg5
       have hz5 := HG4.out.size
       have HF := hid (And.intro (ho5.low (B' := w.heap.size) hz5) (gb_trans HG4.out hg5))
       clear hg5 ho5 hz5))
  all_goals (
    go_wp2_with fail
    go_ret
    exact ⟨_, _, rfl, HF.out.1, HF.out.2⟩)
end Go.Proofs.YtgjpohmjkhgpfaaGreat

namespace Go.Proofs.YtgjpohmjkhgpfaaGreat
open Go.RowKit

theorem pm4_of {p : Nat → Int} {j : Nat} (h : wd (fun i => p (8 * j + i)) 0 ≤ wd (fun i => p (8 * j + i)) 3 ∧ wd (fun i => p (8 * j + i)) 1 ≤ wd (fun i => p (8 * j + i)) 3 ∧ wd (fun i => p (8 * j + i)) 2 ≤ wd (fun i => p (8 * j + i)) 3) {k : Nat} (hk : k = 4 ∨ k = 6) : Pm k (fun ch => p (j * 8 + ch)) := by
  intro i hi
  have e : ∀ q : Nat → Int, cl k q i = wd q i ∧ cl k q 3 = wd q 3 := fun q => by rcases hk with rfl | rfl <;> exact ⟨rfl, rfl⟩
  rw [(e _).1, (e _).2, Nat.mul_comm j 8]
  have hi' : i = 0 ∨ i = 1 ∨ i = 2 := by omega
  rcases hi' with rfl | rfl | rfl
  · exact h.1
  · exact h.2.1
  · exact h.2.2
theorem pm_zero {k : Nat} {q : Nat → Int} (hk : k = 0 ∨ k = 4 ∨ k = 6) (h : ∀ i, q i = 0) : Pm k q := by
  intro i _
  rcases hk with rfl | rfl | rfl
  · rw [cl0, cl0, h, h]; exact Int.le_refl _
  · rw [cl4, cl4, h, h, h, h]; exact Int.le_refl _
  · rw [cl6, cl6, h, h, h, h]; exact Int.le_refl _
/-- what a valid image is, in the package's terms -/
theorem vk_all {k : Nat} {X0 Y0 X1 Y1 : Int} {n : Nat} {p : Nat → Int} (h : VK k X0 Y0 X1 Y1 n p) (hp : By p) (hz : ∀ i, n ≤ i → p i = 0) (hn : n ≤ 2147483647) :
    k ≤ 6 ∧ Pmk k p ∧ ∃ (hh wd : Nat) (sx0 sy0 sx1 sy1 : Int), Geo k sx0 sy0 sx1 sy1 n hh wd ∧ Dat k X0 Y0 X1 Y1 sx0 sy0 sx1 sy1 n p ∧ AtOK k X0 Y0 X1 n hh wd ∧ sx1 = sx0 + wd ∧ sy1 = sy0 + hh ∧
      (k = 6 ∨ (sx0 = X0 ∧ sy0 = Y0 ∧ sx1 = X1 ∧ sy1 = Y1)) ∧ (-1000000000 ≤ sx0 ∧ sx0 ≤ 1000000000 ∧ -1000000000 ≤ sy0 ∧ sy0 ≤ 1000000000 ∧ -1000000000 ≤ sx1 ∧ sx1 ≤ 1000000000 ∧ -1000000000 ≤ sy1 ∧ sy1 ≤ 1000000000) := by
  by_cases h6 : k = 6
  · subst h6
    rcases h with ⟨h, -⟩ | ⟨-, rfl, hm⟩
    · omega
    · refine ⟨by omega, fun j => ?_, 2000000000, 2000000000, -1000000000, -1000000000, 1000000000, 1000000000, .inl ⟨rfl, rfl, rfl, rfl, rfl, rfl, rfl, rfl⟩, ⟨hp, by omega, by omega, fun _ => rfl, .inl rfl, .inl rfl, rfl, rfl, rfl, rfl⟩, .inl ⟨rfl, rfl⟩, by omega, by omega, .inl rfl, by omega⟩
      show Pm 6 (fun ch => p (j * 8 + ch))
      by_cases hj : j = 0
      · subst hj
        exact pm4_of (hm 0 (by omega)) (.inr rfl)
      · exact pm_zero (.inr (.inr rfl)) (fun i => hz _ (by omega))
  · have hk : k < 6 := by rcases h with ⟨h, -⟩ | ⟨h, -⟩ <;> omega
    obtain ⟨hh, wd, G, e1, e2, hnn, l1, l2, v1, v2, v3, v4⟩ := vk_geo hk h
    refine ⟨by omega, fun j => ?_, hh, wd, X0, Y0, X1, Y1, G, ?_, .inr ⟨hk, by omega, hnn, l1, l2, by omega, by omega, by omega, by omega⟩, e1, e2, .inr ⟨rfl, rfl, rfl, rfl⟩, by omega⟩
    · have hk' : (k = 1 ∨ k = 2 ∨ k = 3 ∨ k = 5) ∨ k = 0 ∨ k = 4 := by omega
      rcases hk' with h' | rfl | rfl
      · exact Pm_of (fun i => hp _) h'
      · rcases h with ⟨-, -, -, hm, -⟩ | ⟨h, -⟩
        · have hm' : Mul0 p (n / 4) := hm rfl
          have hnn' : n = hh * (wd * 4) := hnn
          rw [← Nat.mul_assoc] at hnn'
          show Pm 0 (fun ch => p (j * 4 + ch))
          by_cases hj : j < hh * wd
          · have := hm' j (by omega)
            intro i hi
            show p (j * 4 + i) * 257 ≤ p (j * 4 + 3) * 257
            rw [Nat.mul_comm j 4]
            have hi' : i = 0 ∨ i = 1 ∨ i = 2 := by omega
            rcases hi' with rfl | rfl | rfl <;> (try simp only [Nat.add_zero]) <;> omega
          · exact pm_zero (.inl rfl) (fun i => hz _ (by omega))
        · cases h
      · rcases h with ⟨-, -, -, -, hm⟩ | ⟨h, -⟩
        · have hm' : Mul8 p (n / 8) := hm rfl
          have hnn' : n = hh * (wd * 8) := hnn
          rw [← Nat.mul_assoc] at hnn'
          show Pm 4 (fun ch => p (j * 8 + ch))
          by_cases hj : j < hh * wd
          · exact pm4_of (hm' j (by omega)) (.inl rfl)
          · exact pm_zero (.inr (.inl rfl)) (fun i => hz _ (by omega))
        · cases h
    · have b : ∀ f x, bdk k f x = x := fun f x => by unfold bdk; rw [if_neg h6]
      exact ⟨hp, by omega, by omega, by omega, .inr (by unfold sm; omega), .inr (by unfold sm; omega), b _ _, b _ _, b _ _, b _ _⟩
/-- the reference's bounds of an image -/
theorem sbounds_k {k : Nat} {X0 Y0 X1 Y1 sx0 sy0 sx1 sy1 : Int} {n : Nat} {p : Nat → Int} (D : Dat k X0 Y0 X1 Y1 sx0 sy0 sx1 sy1 n p) (A : Option Addr) (m c : Nat) (w : World) :
    Calls Tryz.prog 19 #[vI k X0 Y0 X1 Y1 A m c] w fun e w' => e = .returned (vR sx0 sy0 sx1 sy1) ∧ w.grownBy w' none := by
  obtain ⟨-, -, -, -, -, -, h0, h1, h2, h3⟩ := D
  refine (sbounds_c k X0 Y0 X1 Y1 A m c w).mono ?_
  rintro e w' ⟨rfl, hg⟩
  refine ⟨?_, hg⟩
  unfold bdk at h0 h1 h2 h3
  by_cases h : k = 6
  · subst h
    rw [if_pos rfl] at h0 h1 h2 h3
    subst h0 h1 h2 h3
    rfl
  · rw [if_neg h] at h0 h1 h2 h3
    subst h0 h1 h2 h3
    have e : decide ((k : Int) = 6) = false := decide_eq_false (by omega)
    rw [e]; rfl

/-- the values, the variables, and one operation (i0) that yields a row of bytes of its own -/
def JO (W0 : World) (V : List (Option Value)) (vs : List (Nat × Nat × List Value)) (i0 B n : Nat) (q : Nat → Int) (l : Nat → Bool) (t : Nat → Value) (w : World) : Prop :=
  JV W0 V vs l t w ∧ (l i0 = true → ∃ A c, t i0 = .slice A n c ∧ Own w B n q A c)
section
variable {W0 w w' : World} {V : List (Option Value)} {vs : List (Nat × Nat × List Value)} {l : Nat → Bool} {t : Nat → Value} {i i0 B n : Nat} {q : Nat → Int}
theorem JO.start (hg : W0.grownBy w none) : JO W0 V vs i0 B n q (fun _ => false) t w := ⟨JV.start hg, fun h => (by cases h)⟩
theorem JO.pure (h : JO W0 V vs i0 B n q l t w) (hg : w.grownBy w' none) {v : Value} (hv : V[i]? = some (some v)) (hni : niB vs i = true) (hne : (i0 != i) = true) : JO W0 V vs i0 B n q (upd l i true) (upd t i v) w' := by
  have hne' : i0 ≠ i := by simpa using hne
  refine ⟨h.1.pure hg hv hni, fun hl => ?_⟩
  rw [upd_ne _ _ hne'] at hl ⊢
  obtain ⟨A, c, e, ho⟩ := h.2 hl
  exact ⟨A, c, e, ho.kept0 hg⟩
theorem JO.own (h : JO W0 V vs i0 B n q l t w) (hg : w.grownBy w' none) (hv : V[i0]? = some none) (hni : niB vs i0 = true) {A : Option Addr} {c : Nat} (ho : Own w' B n q A c) : JO W0 V vs i0 B n q (upd l i0 true) (upd t i0 (.slice A n c)) w' := by
  have hni := niB_spec hni
  obtain ⟨⟨h1, h2, h3, h4, h5⟩, -⟩ := h
  refine ⟨⟨gb_trans h1 hg, fun j u hu hl => ?_, fun x hx hl => ?_, fun x y hx hy hne hlx hly => ?_, fun x hx hl => (by rw [upd_ne _ _ (hni x hx).2] at hl; rw [upd_ne _ _ (hni x hx).1]; exact h5 x hx hl)⟩, fun _ => ⟨A, c, upd_same _ _ _, ho⟩⟩
  · by_cases e : j = i0
    · subst e
      rw [hv] at hu
      cases hu
    · rw [upd_ne _ _ e] at hl ⊢
      exact h2 j u hu hl
  · obtain ⟨n1, n2⟩ := hni x hx
    rw [upd_ne _ _ n1] at hl ⊢
    rw [upd_ne _ _ n2]
    obtain ⟨g, e1, e2, e3, e4, e5⟩ := h3 x hx hl
    refine ⟨g, e1, e2, Nat.lt_of_lt_of_le e3 hg.size, fun k hk => ?_, fun hs k v' hv' => ?_⟩
    · obtain ⟨⟨u, hu⟩, hf⟩ := e4 k hk
      exact ⟨⟨u, (gb_cell0 hg (p := ⟨g, k, none⟩) e3).trans hu⟩, (gb_free0 hg (p := ⟨g, k, none⟩) e3).trans hf⟩
    · exact (gb_cell0 hg (p := ⟨g, k, none⟩) e3).trans (e5 hs k v' hv')
  · rw [upd_ne _ _ (hni x hx).1] at hlx ⊢
    rw [upd_ne _ _ (hni y hy).1] at hly ⊢
    exact h4 x y hx hy hne hlx hly
end

/-- the laws' drawn, at whatever destination -/
theorem drawnN_c {n n' cd cg cs dh dw ks kd sh sw op : Nat} {Xd0 Yd0 Xd1 Yd1 X0 Y0 X1 Y1 b0 b1 b2 b3 p0 p1 k0 k1 : Int} {Ad Ag As : Option Addr} {p q s : Nat → Int} (w : World) (hkd : kd = 0 ∨ kd = 4 ∨ kd = 2) (hop : op ≤ 1)
    (hd : Rd w Ad n p) (hq : Rd w Ag n q) (hs : Rd w As n' s) (hpb : By p) (hqb : By q) (hsb : By s) (c1 : n ≤ cd) (c2 : cd ≤ 9223372036854775807) (c3 : n ≤ cg) (c4 : cg ≤ 9223372036854775807) (c5 : n' ≤ cs) (c6 : cs ≤ 9223372036854775807)
    (gx : Xd1 = Xd0 + dw) (gy : Yd1 = Yd0 + dh) (gm : n = dh * (dw * sz kd)) (gw : dw ≤ 128) (gh : dh ≤ 128) (gv : -64 ≤ Xd0 ∧ Xd0 ≤ 64 ∧ -64 ≤ Yd0 ∧ Yd0 ≤ 64)
    (hG : AtOK ks X0 Y0 X1 n' sh sw) (hpm : ∀ r c, Pm ks (srcP ks sw s r c)) (hbp : -9000000000 ≤ b0 ∧ b0 ≤ 9000000000 ∧ -9000000000 ≤ b1 ∧ b1 ≤ 9000000000 ∧ -9000000000 ≤ p0 ∧ p0 ≤ 9000000000 ∧ -9000000000 ≤ p1 ∧ p1 ≤ 9000000000)
    (hout : ∀ r c ch, r < dh → c < dw → ch < sz kd → ¬ InC b0 b1 b2 b3 Xd0 Yd0 r c → q ((r * dw + c) * sz kd + ch) = p ((r * dw + c) * sz kd + ch))
    (hin : ∀ r c, r < dh → c < dw → InC b0 b1 b2 b3 Xd0 Yd0 r c → ∃ sr sc : Nat, (ks = 6 ∨ (p0 + (Xd0 + (c : Int)) - b0 - X0 = sc ∧ p1 + (Yd0 + (r : Int)) - b1 - Y0 = sr ∧ sc < sw ∧ sr < sh)) ∧
      NearV kd (fun ch => q ((r * dw + c) * sz kd + ch)) (fun i => cmp op (cl kd (srcP kd dw p r c) i) (cl ks (srcP ks sw s sr sc) i) (cl ks (srcP ks sw s sr sc) 3) 65535)) :
    Calls Tryz.prog 20 #[vI kd Xd0 Yd0 Xd1 Yd1 Ad n cd, .slice Ag n cg, vR b0 b1 b2 b3, vP p0 p1, vP k0 k1, vI ks X0 Y0 X1 Y1 As n' cs, .pointer none, .int .i64 op] w fun e w' => e = .returned (.bool true) ∧ w.grownBy w' none := by
  rcases hkd with rfl | rfl | rfl
  · exact drawnN_0 w hop hd hq hs hpb hqb hsb c1 c2 c3 c4 c5 c6 gx gy gm gw gh gv hG hpm hbp hout hin
  · exact drawnN_4 w hop hd hq hs hpb hqb hsb c1 c2 c3 c4 c5 c6 gx gy gm gw gh gv hG hpm hbp hout hin
  · exact drawnN_2 w hop hd hq hs hpb hqb hsb c1 c2 c3 c4 c5 c6 gx gy gm gw gh gv hG hpm hbp hout hin
theorem and1 (x : Int) : ∃ o : Nat, o ≤ 1 ∧ bits .and .i64 x 1 = o := by
  have h : bits .and .i64 x 1 = IntKind.i64.wrap ((BitVec.ofInt 64 x &&& BitVec.ofInt 64 1).toNat : Int) := rfl
  have h1 : (BitVec.ofInt 64 1).toNat = 1 := by decide
  have h2 : (BitVec.ofInt 64 x &&& BitVec.ofInt 64 1).toNat ≤ 1 := by rw [BitVec.toNat_and, h1, Nat.and_one_is_mod]; omega
  refine ⟨_, h2, ?_⟩
  rw [h, IntKind.wrap_i64]
  omega
end Go.Proofs.YtgjpohmjkhgpfaaGreat

namespace Go.Proofs.YtgjpohmjkhgpfaaGreat
open Go.RowKit

theorem cl0_small {q0 q1 q2 q3 px py d0 d1 d2 d3 s0 s1 s2 s3 b0 b1 b2 b3 p0 p1 k0 k1 : Int} (h : Cl0 q0 q1 q2 q3 px py 0 0 d0 d1 d2 d3 s0 s1 s2 s3 b0 b1 b2 b3 p0 p1 k0 k1) :
    -9000000000 ≤ b0 ∧ b0 ≤ 9000000000 ∧ -9000000000 ≤ b1 ∧ b1 ≤ 9000000000 ∧ -9000000000 ≤ p0 ∧ p0 ≤ 9000000000 ∧ -9000000000 ≤ p1 ∧ p1 ≤ 9000000000 := by
  obtain ⟨⟨u1, u2, u3, u4, -, -, -, -, -, -, -, -, u7, u8⟩, -, e0, e1, -, -⟩ := h
  unfold sm at *
  omega

set_option maxRecDepth 100000 in
set_option maxHeartbeats 8000000 in
theorem draw_walk {kd ks Xd0 Yd0 Xd1 Yd1 X0 Y0 X1 Y1 r0 r1 r2 r3 px py op : Int} {Ad As : Option Addr} {n n' cd cs : Nat} {p s : Nat → Int} (w : World) (hd : InI w Ad n cd p) (hs : InI w As n' cs s) :
    Calls Tryz.prog 7 #[vI kd Xd0 Yd0 Xd1 Yd1 Ad n cd, vR r0 r1 r2 r3, vI ks X0 Y0 X1 Y1 As n' cs, .int .i64 px, .int .i64 py, .int .i64 op] w fun e w' => e = .returned (.bool true) ∧ w.grownBy w' none := by
  have HD := hid hd
  have HS := hid hs
  clear hd hs
  by_cases hn : n ≤ 2147483647
  · by_cases hn' : n' ≤ 2147483647
    · go_enter Tryz.func7, Tryz.ntmps7
      go_wp2_with fail
      refine (fits_y _ hn).mono ?_
      rintro e w1 ⟨rfl, hg⟩
      have hh1 := gb_trans (a := w) (by (repeat (first | exact gb_refl _ _ | assumption | refine gb_drew ?_ | refine gb_drewN ?_ _ | refine gb_alloc ?_ _ | refine gb_setCell ?_ (.inr (by simp <;> omega)) _))) hg
      have HG1 := hid hh1
      have hA : CellsAt w1 w.heap.size [.int .i64 kd, .int .i64 Xd0, .int .i64 Yd0, .int .i64 Xd1, .int .i64 Yd1, .slice Ad n cd] := CellsAt.kept0 (fun i v hv => by (rcases i with _ | _ | _ | _ | _ | _ | i <;> (first | (cases hv; go_simp; done) | (simp at hv; done)))) hg
      have HA1 := hid hA
      clear hA
      have zA := HA1.out.lt
      have hR : CellsAt w1 (w.heap.size + 1) [.int .i64 r0, .int .i64 r1, .int .i64 r2, .int .i64 r3] := CellsAt.kept0 (fun i v hv => by (rcases i with _ | _ | _ | _ | i <;> (first | (cases hv; go_simp; done) | (simp at hv; done)))) hg
      have HR1 := hid hR
      clear hR
      have zR := HR1.out.lt
      have hS : CellsAt w1 (w.heap.size + 1 + 1) [.int .i64 ks, .int .i64 X0, .int .i64 Y0, .int .i64 X1, .int .i64 Y1, .slice As n' cs] := CellsAt.kept0 (fun i v hv => by (rcases i with _ | _ | _ | _ | _ | _ | i <;> (first | (cases hv; go_simp; done) | (simp at hv; done)))) hg
      have HS1 := hid hS
      clear hS
      have zS := HS1.out.lt
      clear hg hh1
      have s0' := HS1.out 0 _ rfl
      have s1' := HS1.out 1 _ rfl
      have s2' := HS1.out 2 _ rfl
      have s3' := HS1.out 3 _ rfl
      have s4' := HS1.out 4 _ rfl
      have s5' := HS1.out 5 _ rfl
      go_wp2_with fail
      refine (fits_y _ hn').mono ?_
      rintro e w2 ⟨rfl, hg⟩
      have hh2 := gb_trans (a := w1) (by (repeat (first | exact gb_refl _ _ | assumption | refine gb_drew ?_ | refine gb_drewN ?_ _ | refine gb_alloc ?_ _ | refine gb_setCell ?_ (.inr (by simp <;> omega)) _))) hg
      have HG2 := hid (gb_trans HG1.out hh2)
      clear zA zR zS
      have HA2 := hid (HA1.out.kept0 hh2)
      have zA := HA2.out.lt
      have HR2 := hid (HR1.out.kept0 hh2)
      have zR := HR2.out.lt
      have HS2 := hid (HS1.out.kept0 hh2)
      have zS := HS2.out.lt
      clear s0' s1' s2' s3' s4' s5'
      clear hg hh2
      have r0' := HR2.out 0 _ rfl
      have r1' := HR2.out 1 _ rfl
      have r2' := HR2.out 2 _ rfl
      have r3' := HR2.out 3 _ rfl
      go_wp2_with fail
      refine (lrect_c r0 r1 r2 r3 _).mono ?_
      rintro e w3 ⟨b, q0, q1, q2, q3, rfl, hb, hg⟩
      have hh3 := gb_trans (a := w2) (by (repeat (first | exact gb_refl _ _ | assumption | refine gb_drew ?_ | refine gb_drewN ?_ _ | refine gb_alloc ?_ _ | refine gb_setCell ?_ (.inr (by simp <;> omega)) _))) hg
      have HG3 := hid (gb_trans HG2.out hh3)
      clear zA zR zS
      have HA3 := hid (HA2.out.kept0 hh3)
      have zA := HA3.out.lt
      have HR3 := hid (HR2.out.kept0 hh3)
      have zR := HR3.out.lt
      have HS3 := hid (HS2.out.kept0 hh3)
      have zS := HS3.out.lt
      clear r0' r1' r2' r3'
      clear hg hh3
      cases b
      · go_wp2_with fail
        go_ret
        exact ⟨rfl, gb_trans HG3.out (by (repeat (first | exact gb_refl _ _ | assumption | refine gb_drew ?_ | refine gb_drewN ?_ _ | refine gb_alloc ?_ _ | refine gb_setCell ?_ (.inr (by simp <;> omega)) _)))⟩
      obtain ⟨hr, rfl, rfl, rfl, rfl⟩ := hb rfl
      have HNR := hid hr
      clear hr hb
      have a0' := HA3.out 0 _ rfl
      have a1' := HA3.out 1 _ rfl
      have a2' := HA3.out 2 _ rfl
      have a3' := HA3.out 3 _ rfl
      have a4' := HA3.out 4 _ rfl
      have a5' := HA3.out 5 _ rfl
      go_wp2_with fail
      refine (target_c _ (HD.out.1.kept0 (gb_trans HG3.out (by (repeat (first | exact gb_refl _ _ | assumption | refine gb_drew ?_ | refine gb_drewN ?_ _ | refine gb_alloc ?_ _ | refine gb_setCell ?_ (.inr (by simp <;> omega)) _))))) HD.out.2.1 hn HD.out.2.2.2.1 HD.out.2.2.2.2).mono ?_
      rintro e w4 ⟨b, rfl, hb, hg⟩
      have hh4 := gb_trans (a := w3) (by (repeat (first | exact gb_refl _ _ | assumption | refine gb_drew ?_ | refine gb_drewN ?_ _ | refine gb_alloc ?_ _ | refine gb_setCell ?_ (.inr (by simp <;> omega)) _))) hg
      have HG4 := hid (gb_trans HG3.out hh4)
      clear zA zR zS
      have HA4 := hid (HA3.out.kept0 hh4)
      have zA := HA4.out.lt
      have HR4 := hid (HR3.out.kept0 hh4)
      have zR := HR4.out.lt
      have HS4 := hid (HS3.out.kept0 hh4)
      have zS := HS4.out.lt
      clear a0' a1' a2' a3' a4' a5'
      have hT : CellsAt w4 w3.heap.size [.int .i64 q0, .int .i64 q1, .int .i64 q2, .int .i64 q3] := CellsAt.kept0 (fun i v hv => by (rcases i with _ | _ | _ | _ | i <;> (first | (cases hv; go_simp; done) | (simp at hv; done)))) hg
      have HT4 := hid hT
      clear hT
      have zT := HT4.out.lt
      clear hg hh4
      cases b
      · go_wp2_with fail
        go_ret
        exact ⟨rfl, gb_trans HG4.out (by (repeat (first | exact gb_refl _ _ | assumption | refine gb_drew ?_ | refine gb_drewN ?_ _ | refine gb_alloc ?_ _ | refine gb_setCell ?_ (.inr (by simp <;> omega)) _)))⟩
      obtain ⟨kk, rfl, hkk, hv⟩ := hb rfl
      have HV := hid hv
      have HK := hid hkk
      clear hb hv hkk
      have s0' := HS4.out 0 _ rfl
      have s1' := HS4.out 1 _ rfl
      have s2' := HS4.out 2 _ rfl
      have s3' := HS4.out 3 _ rfl
      have s4' := HS4.out 4 _ rfl
      have s5' := HS4.out 5 _ rfl
      go_wp2_with fail
      refine (valid_c _ (HS.out.1.kept0 (gb_trans HG4.out (by (repeat (first | exact gb_refl _ _ | assumption | refine gb_drew ?_ | refine gb_drewN ?_ _ | refine gb_alloc ?_ _ | refine gb_setCell ?_ (.inr (by simp <;> omega)) _))))) HS.out.2.1 hn' HS.out.2.2.2.1 HS.out.2.2.2.2).mono ?_
      rintro e w5 ⟨b, rfl, hb, hg⟩
      have hh5 := gb_trans (a := w4) (by (repeat (first | exact gb_refl _ _ | assumption | refine gb_drew ?_ | refine gb_drewN ?_ _ | refine gb_alloc ?_ _ | refine gb_setCell ?_ (.inr (by simp <;> omega)) _))) hg
      have HG5 := hid (gb_trans HG4.out hh5)
      clear zA zR zS zT
      have HA5 := hid (HA4.out.kept0 hh5)
      have zA := HA5.out.lt
      have HR5 := hid (HR4.out.kept0 hh5)
      have zR := HR5.out.lt
      have HS5 := hid (HS4.out.kept0 hh5)
      have zS := HS5.out.lt
      have HT5 := hid (HT4.out.kept0 hh5)
      have zT := HT5.out.lt
      clear s0' s1' s2' s3' s4' s5'
      clear hg hh5
      cases b
      · go_wp2_with fail
        go_ret
        exact ⟨rfl, gb_trans HG5.out (by (repeat (first | exact gb_refl _ _ | assumption | refine gb_drew ?_ | refine gb_drewN ?_ _ | refine gb_alloc ?_ _ | refine gb_setCell ?_ (.inr (by simp <;> omega)) _)))⟩
      obtain ⟨k2, rfl, hv⟩ := hb rfl
      have HVS := hid hv
      clear hb hv
      go_wp2_with fail
      refine (fine_c (n := 2) (l := fun i => if i = 0 then px else py) _ (fun i hi => ?_) (by omega)).mono ?_
      · have hi' : i = 0 ∨ i = 1 := by omega
        rcases hi' with rfl | rfl <;> go_simp
      rintro e w6 ⟨⟨b, rfl, hb⟩, rfl⟩
      cases b
      · go_wp2_with fail
        go_ret
        exact ⟨rfl, gb_trans HG5.out (by (repeat (first | exact gb_refl _ _ | assumption | refine gb_drew ?_ | refine gb_drewN ?_ _ | refine gb_alloc ?_ _ | refine gb_setCell ?_ (.inr (by simp <;> omega)) _)))⟩
      have hx : nr px := hb rfl 0 (by omega)
      have hy : nr py := hb rfl 1 (by omega)
      have HXY := hid (And.intro hx hy)
      clear hb hx hy
      obtain ⟨o, ho, hand⟩ := and1 op
      obtain ⟨dh, dw, GD, gx, gy, gm, gw, gh, v1, v2, v3, v4⟩ := vk_geo (by have := HK.out; omega) HV.out
      have HGD := hid (And.intro GD (And.intro gx (And.intro gy (And.intro gm (And.intro gw (And.intro gh (And.intro v1 (And.intro v2 (And.intro v3 v4)))))))))
      obtain ⟨hk6, hpm, sh, sw, sx0, sy0, sx1, sy1, GS, DS, AS, t1, t2, hX, hB⟩ := vk_all HVS.out HS.out.2.1 HS.out.2.2.1 hn'
      have HGS := hid (And.intro GS (And.intro DS (And.intro AS (And.intro hpm hX))))
      have HC0 : Hid (∃ b0 b1 b2 b3 p0 p1 k0 k1, Cl0 q0 q1 q2 q3 px py 0 0 Xd0 Yd0 Xd1 Yd1 sx0 sy0 sx1 sy1 b0 b1 b2 b3 p0 p1 k0 k1) := hid (by
        obtain ⟨hr0, hr1, hr2, hr3⟩ := HNR.out
        obtain ⟨hx, hy⟩ := HXY.out
        unfold nr at hr0 hr1 hr2 hr3 hx hy
        exact cl0_ex (by unfold sm; omega) (by unfold sm; omega) (by unfold sm; omega) (by unfold sm; omega) (by unfold sm; omega) (by unfold sm; omega) (by unfold sm; omega) (by unfold sm; omega) (by unfold sm; omega) (by unfold sm; omega) (by unfold sm; omega) (by unfold sm; omega) (by omega) (by omega) (by omega) (by omega))
      obtain ⟨b0, b1, b2, b3, p0, p1, k0, k1, hC⟩ := HC0.out
      have HC := hid hC
      have HT12 := hid (And.intro t1 t2)
      clear GD gx gy gm gw gh v1 v2 v3 v4 GS DS AS hpm hX hC t1 t2 hB
      go_upto_region 7 with fail
      refine wp_region_inv (JV w5 [some (vI kk Xd0 Yd0 Xd1 Yd1 Ad n cd), some (vR Xd0 Yd0 Xd1 Yd1), some (vR q0 q1 q2 q3), some (vI k2 X0 Y0 X1 Y1 As n' cs), some (vR sx0 sy0 sx1 sy1), some (.int .i64 px), some (.int .i64 py), some (vR 0 0 0 0), some (.tuple #[vR b0 b1 b2 b3, vP p0 p1, vP k0 k1]), some (.tuple #[vR b0 b1 b2 b3, vP p0 p1, vP k0 k1]), some (vR b0 b1 b2 b3), some (vP p0 p1), some (vP k0 k1), none, none, none, none, none, none] [(13, 16, [.int .i64 b0, .int .i64 b1, .int .i64 b2, .int .i64 b3]), (14, 17, [.int .i64 p0, .int .i64 p1]), (15, 18, [.int .i64 k0, .int .i64 k1])]) (fun _ => undef) (by kernel_rfl) (by kernel_rfl) [(0, 53), (1, 54), (2, 55), (3, 56), (4, 57), (5, 58), (6, 59), (7, 60), (8, 61), (9, 52), (10, 62), (11, 63), (12, 64), (13, 15), (14, 16), (15, 17)] (by kernel_rfl) (JV.start (by (repeat (first | exact gb_refl _ _ | assumption | refine gb_drew ?_ | refine gb_drewN ?_ _ | refine gb_alloc ?_ _ | refine gb_setCell ?_ (.inr (by simp <;> omega)) _)))) ?_ ?_
      · refine Steps'.cons [] (by kernel_rfl) ?_ (Steps'.cons [(0, 53)] (by kernel_rfl) ?_ (Steps'.cons [] (by kernel_rfl) ?_ (Steps'.cons [] (by kernel_rfl) ?_ (Steps'.cons [(3, 56)] (by kernel_rfl) ?_ (Steps'.cons [] (by kernel_rfl) ?_ (Steps'.cons [] (by kernel_rfl) ?_ (Steps'.cons [] (by kernel_rfl) ?_ (Steps'.cons [(1, 54), (2, 55), (4, 57), (5, 58), (6, 59), (7, 60)] (by kernel_rfl) ?_ (Steps'.cons [(8, 61)] (by kernel_rfl) ?_ (Steps'.cons [(9, 52)] (by kernel_rfl) ?_ (Steps'.cons [(9, 52)] (by kernel_rfl) ?_ (Steps'.cons [(9, 52)] (by kernel_rfl) ?_ (Steps'.cons [] (by kernel_rfl) ?_ (Steps'.cons [] (by kernel_rfl) ?_ (Steps'.cons [] (by kernel_rfl) ?_ (Steps'.cons [(10, 62), (13, 15)] (by kernel_rfl) ?_ (Steps'.cons [(11, 63), (14, 16)] (by kernel_rfl) ?_ (Steps'.cons [(12, 64), (15, 17)] (by kernel_rfl) ?_ (Steps'.nil)))))))))))))))))))
        · intro l t w7 hJ hl hd bb hbb K hK
          have f0 := (HA5.out.kept0 hJ.gb) 0 _ rfl
          have f1 := (HA5.out.kept0 hJ.gb) 1 _ rfl
          have f2 := (HA5.out.kept0 hJ.gb) 2 _ rfl
          have f3 := (HA5.out.kept0 hJ.gb) 3 _ rfl
          have f4 := (HA5.out.kept0 hJ.gb) 4 _ rfl
          have f5 := (HA5.out.kept0 hJ.gb) 5 _ rfl
          simp only [puts, Act.put, List.setIfInBounds_toArray, List.set_cons_zero, List.set_cons_succ] at hbb
          subst hbb
          go_simp
          exact hK.out _ _ (hJ.pure (gb_refl _ _) rfl rfl)
        · intro l t w7 hJ hl hd bb hbb K hK
          have e0 := hJ.val 0 _ rfl (hd 0 (by kernel_rfl))
          simp only [puts, Act.put, List.setIfInBounds_toArray, List.set_cons_zero, List.set_cons_succ] at hbb
          rw [e0] at hbb
          subst hbb
          go_simp
          refine (sbounds_k (vk_dat (by have := HK.out; omega) HV.out HD.out.2.1 hn) Ad n cd _).mono ?_
          rintro e w8 ⟨rfl, hg⟩
          exact hK.out _ _ (hJ.pure hg rfl rfl)
        · intro l t w7 hJ hl hd bb hbb K hK
          have f0 := (HT5.out.kept0 hJ.gb) 0 _ rfl
          have f1 := (HT5.out.kept0 hJ.gb) 1 _ rfl
          have f2 := (HT5.out.kept0 hJ.gb) 2 _ rfl
          have f3 := (HT5.out.kept0 hJ.gb) 3 _ rfl
          simp only [puts, Act.put, List.setIfInBounds_toArray, List.set_cons_zero, List.set_cons_succ] at hbb
          subst hbb
          go_simp
          exact hK.out _ _ (hJ.pure (gb_refl _ _) rfl rfl)
        · intro l t w7 hJ hl hd bb hbb K hK
          have f0 := (HS5.out.kept0 hJ.gb) 0 _ rfl
          have f1 := (HS5.out.kept0 hJ.gb) 1 _ rfl
          have f2 := (HS5.out.kept0 hJ.gb) 2 _ rfl
          have f3 := (HS5.out.kept0 hJ.gb) 3 _ rfl
          have f4 := (HS5.out.kept0 hJ.gb) 4 _ rfl
          have f5 := (HS5.out.kept0 hJ.gb) 5 _ rfl
          simp only [puts, Act.put, List.setIfInBounds_toArray, List.set_cons_zero, List.set_cons_succ] at hbb
          subst hbb
          go_simp
          exact hK.out _ _ (hJ.pure (gb_refl _ _) rfl rfl)
        · intro l t w7 hJ hl hd bb hbb K hK
          have e3 := hJ.val 3 _ rfl (hd 3 (by kernel_rfl))
          simp only [puts, Act.put, List.setIfInBounds_toArray, List.set_cons_zero, List.set_cons_succ] at hbb
          rw [e3] at hbb
          subst hbb
          go_simp
          refine (sbounds_k HGS.out.2.1 As n' cs _).mono ?_
          rintro e w8 ⟨rfl, hg⟩
          exact hK.out _ _ (hJ.pure hg rfl rfl)
        · intro l t w7 hJ hl hd bb hbb K hK
          simp only [puts, Act.put, List.setIfInBounds_toArray, List.set_cons_zero, List.set_cons_succ] at hbb
          subst hbb
          go_simp
          exact hK.out _ _ (hJ.pure (gb_refl _ _) rfl rfl)
        · intro l t w7 hJ hl hd bb hbb K hK
          simp only [puts, Act.put, List.setIfInBounds_toArray, List.set_cons_zero, List.set_cons_succ] at hbb
          subst hbb
          go_simp
          exact hK.out _ _ (hJ.pure (gb_refl _ _) rfl rfl)
        · intro l t w7 hJ hl hd bb hbb K hK
          simp only [puts, Act.put, List.setIfInBounds_toArray, List.set_cons_zero, List.set_cons_succ] at hbb
          subst hbb
          go_simp
          exact hK.out _ _ (hJ.pure (gb_refl _ _) rfl rfl)
        · intro l t w7 hJ hl hd bb hbb K hK
          have e1 := hJ.val 1 _ rfl (hd 1 (by kernel_rfl))
          have e2 := hJ.val 2 _ rfl (hd 2 (by kernel_rfl))
          have e4 := hJ.val 4 _ rfl (hd 4 (by kernel_rfl))
          have e5 := hJ.val 5 _ rfl (hd 5 (by kernel_rfl))
          have e6 := hJ.val 6 _ rfl (hd 6 (by kernel_rfl))
          have e7 := hJ.val 7 _ rfl (hd 7 (by kernel_rfl))
          simp only [puts, Act.put, List.setIfInBounds_toArray, List.set_cons_zero, List.set_cons_succ] at hbb
          rw [e1] at hbb
          rw [e2] at hbb
          rw [e4] at hbb
          rw [e5] at hbb
          rw [e6] at hbb
          rw [e7] at hbb
          subst hbb
          go_simp
          refine (sclip0_c _ HC.out).mono ?_
          rintro e w8 ⟨rfl, hg⟩
          exact hK.out _ _ (hJ.pure hg rfl rfl)
        · intro l t w7 hJ hl hd bb hbb K hK
          have e8 := hJ.val 8 _ rfl (hd 8 (by kernel_rfl))
          simp only [puts, Act.put, List.setIfInBounds_toArray, List.set_cons_zero, List.set_cons_succ] at hbb
          rw [e8] at hbb
          subst hbb
          go_simp
          exact hK.out _ _ (hJ.pure (gb_refl _ _) rfl rfl)
        · intro l t w7 hJ hl hd bb hbb K hK
          have e9 := hJ.val 9 _ rfl (hd 9 (by kernel_rfl))
          simp only [puts, Act.put, List.setIfInBounds_toArray, List.set_cons_zero, List.set_cons_succ] at hbb
          rw [e9] at hbb
          subst hbb
          go_simp
          exact hK.out _ _ (hJ.pure (gb_refl _ _) rfl rfl)
        · intro l t w7 hJ hl hd bb hbb K hK
          have e9 := hJ.val 9 _ rfl (hd 9 (by kernel_rfl))
          simp only [puts, Act.put, List.setIfInBounds_toArray, List.set_cons_zero, List.set_cons_succ] at hbb
          rw [e9] at hbb
          subst hbb
          go_simp
          exact hK.out _ _ (hJ.pure (gb_refl _ _) rfl rfl)
        · intro l t w7 hJ hl hd bb hbb K hK
          have e9 := hJ.val 9 _ rfl (hd 9 (by kernel_rfl))
          simp only [puts, Act.put, List.setIfInBounds_toArray, List.set_cons_zero, List.set_cons_succ] at hbb
          rw [e9] at hbb
          subst hbb
          go_simp
          exact hK.out _ _ (hJ.pure (gb_refl _ _) rfl rfl)
        · intro l t w7 hJ hl hd bb hbb K hK
          simp only [puts, Act.put, List.setIfInBounds_toArray, List.set_cons_zero, List.set_cons_succ] at hbb
          subst hbb
          go_simp
          exact hK.out _ _ (hJ.alloc (vsOK3 rfl) (C := #[.int .i64 0, .int .i64 0, .int .i64 0, .int .i64 0]) (s := 16) (vals := [.int .i64 b0, .int .i64 b1, .int .i64 b2, .int .i64 b3]) (by simp) rfl hl rfl rfl)
        · intro l t w7 hJ hl hd bb hbb K hK
          simp only [puts, Act.put, List.setIfInBounds_toArray, List.set_cons_zero, List.set_cons_succ] at hbb
          subst hbb
          go_simp
          exact hK.out _ _ (hJ.alloc (vsOK3 rfl) (C := #[.int .i64 0, .int .i64 0]) (s := 17) (vals := [.int .i64 p0, .int .i64 p1]) (by simp) rfl hl rfl rfl)
        · intro l t w7 hJ hl hd bb hbb K hK
          simp only [puts, Act.put, List.setIfInBounds_toArray, List.set_cons_zero, List.set_cons_succ] at hbb
          subst hbb
          go_simp
          exact hK.out _ _ (hJ.alloc (vsOK3 rfl) (C := #[.int .i64 0, .int .i64 0]) (s := 18) (vals := [.int .i64 k0, .int .i64 k1]) (by simp) rfl hl rfl rfl)
        · intro l t w7 hJ hl hd bb hbb K hK
          obtain ⟨g, eg, -, -, hc⟩ := hJ.open (a := 13) (s := 16) (vals := [.int .i64 b0, .int .i64 b1, .int .i64 b2, .int .i64 b3]) (by simp) (hd 13 (by kernel_rfl))
          obtain ⟨⟨u0, c0⟩, z0⟩ := hc 0 (by simp)
          obtain ⟨⟨u1, c1⟩, z1⟩ := hc 1 (by simp)
          obtain ⟨⟨u2, c2⟩, z2⟩ := hc 2 (by simp)
          obtain ⟨⟨u3, c3⟩, z3⟩ := hc 3 (by simp)
          have e10 := hJ.val 10 _ rfl (hd 10 (by kernel_rfl))
          simp only [puts, Act.put, List.setIfInBounds_toArray, List.set_cons_zero, List.set_cons_succ] at hbb
          rw [e10] at hbb
          rw [eg] at hbb
          subst hbb
          go_simp
          obtain ⟨y1, y2, y3⟩ := st4 c0 c1 c2 c3
          exact hK.out undef _ (hJ.store (u := undef) (vsOK3 rfl) (a := 13) (vals := [.int .i64 b0, .int .i64 b1, .int .i64 b2, .int .i64 b3]) (by simp) rfl (hd 13 (by kernel_rfl)) eg y1 y2 y3)
        · intro l t w7 hJ hl hd bb hbb K hK
          obtain ⟨g, eg, -, -, hc⟩ := hJ.open (a := 14) (s := 17) (vals := [.int .i64 p0, .int .i64 p1]) (by simp) (hd 14 (by kernel_rfl))
          obtain ⟨⟨u0, c0⟩, z0⟩ := hc 0 (by simp)
          obtain ⟨⟨u1, c1⟩, z1⟩ := hc 1 (by simp)
          have e11 := hJ.val 11 _ rfl (hd 11 (by kernel_rfl))
          simp only [puts, Act.put, List.setIfInBounds_toArray, List.set_cons_zero, List.set_cons_succ] at hbb
          rw [e11] at hbb
          rw [eg] at hbb
          subst hbb
          go_simp
          obtain ⟨y1, y2, y3⟩ := st2 c0 c1
          exact hK.out undef _ (hJ.store (u := undef) (vsOK3 rfl) (a := 14) (vals := [.int .i64 p0, .int .i64 p1]) (by simp) rfl (hd 14 (by kernel_rfl)) eg y1 y2 y3)
        · intro l t w7 hJ hl hd bb hbb K hK
          obtain ⟨g, eg, -, -, hc⟩ := hJ.open (a := 15) (s := 18) (vals := [.int .i64 k0, .int .i64 k1]) (by simp) (hd 15 (by kernel_rfl))
          obtain ⟨⟨u0, c0⟩, z0⟩ := hc 0 (by simp)
          obtain ⟨⟨u1, c1⟩, z1⟩ := hc 1 (by simp)
          have e12 := hJ.val 12 _ rfl (hd 12 (by kernel_rfl))
          simp only [puts, Act.put, List.setIfInBounds_toArray, List.set_cons_zero, List.set_cons_succ] at hbb
          rw [e12] at hbb
          rw [eg] at hbb
          subst hbb
          go_simp
          obtain ⟨y1, y2, y3⟩ := st2 c0 c1
          exact hK.out undef _ (hJ.store (u := undef) (vsOK3 rfl) (a := 15) (vals := [.int .i64 k0, .int .i64 k1]) (by simp) rfl (hd 15 (by kernel_rfl)) eg y1 y2 y3)
      intro l t wc hJ hl
      obtain ⟨g, e13, -, -, hgc⟩ := hJ.var (a := 13) (s := 16) (vals := [.int .i64 b0, .int .i64 b1, .int .i64 b2, .int .i64 b3]) (by simp) (hl 13 (by decide)) (hl 16 (by decide))
      obtain ⟨h, e14, -, -, hhc⟩ := hJ.var (a := 14) (s := 17) (vals := [.int .i64 p0, .int .i64 p1]) (by simp) (hl 14 (by decide)) (hl 17 (by decide))
      obtain ⟨i9, e15, -, -, hic⟩ := hJ.var (a := 15) (s := 18) (vals := [.int .i64 k0, .int .i64 k1]) (by simp) (hl 15 (by decide)) (hl 18 (by decide))
      have hgw := hJ.gb
      have HB4 : Hid (CellsAt wc g [.int .i64 b0, .int .i64 b1, .int .i64 b2, .int .i64 b3]) := hid hgc
      have HP2 : Hid (CellsAt wc h [.int .i64 p0, .int .i64 p1]) := hid hhc
      have HK2 : Hid (CellsAt wc i9 [.int .i64 k0, .int .i64 k1]) := hid hic
      have HAc := hid (HA5.out.kept0 hgw)
      have HRc := hid (HR5.out.kept0 hgw)
      have HSc := hid (HS5.out.kept0 hgw)
      have HGc := hid (gb_trans HG5.out hgw)
      clear hJ hl hgc hhc hic hgw
      simp only [puts, Act.put, List.setIfInBounds_toArray, List.set_cons_zero, List.set_cons_succ]
      rw [e13, e14, e15]
      clear e13 e14 e15
      obtain ⟨q, hq⟩ : ∃ q, cutN n (resB kk dw (In0 q0 q1 q2 q3 px py Xd0 Yd0 sx0 sy0 sh sw) (fun r c => px0 kk k2 o (toP dw (sz kk) p r c) (srcAt k2 sw s q0 q1 px py Xd0 Yd0 sx0 sy0 r c)) p) = q := ⟨_, rfl⟩
      have HQ := hid hq
      clear hq
      go_upto_region 8 with fail
      refine wp_region_inv (JO wc [some (vI kk Xd0 Yd0 Xd1 Yd1 Ad n cd), some (vI kk Xd0 Yd0 Xd1 Yd1 Ad n cd), some (vR q0 q1 q2 q3), some (vI k2 X0 Y0 X1 Y1 As n' cs), some (.int .i64 px), some (.int .i64 py), some (.int .i64 o), none, some (vR b0 b1 b2 b3), some (vP p0 p1), some (vP 0 0), some (vI k2 X0 Y0 X1 Y1 As n' cs), some (.int .i64 o), some (.bool true), some (.bool true)] [] 7 wc.heap.size n q) (fun _ => undef) (by kernel_rfl) (by kernel_rfl) [(0, 65), (1, 66), (2, 67), (3, 68), (4, 69), (5, 70), (6, 71), (7, 72), (8, 73), (9, 74), (10, 75), (11, 76), (12, 77), (13, 78), (14, 12)] (by kernel_rfl) (JO.start (by (repeat (first | exact gb_refl _ _ | assumption | refine gb_drew ?_ | refine gb_drewN ?_ _ | refine gb_alloc ?_ _ | refine gb_setCell ?_ (.inr (by simp <;> omega)) _)))) ?_ ?_
      · refine Steps'.cons [] (by kernel_rfl) ?_ (Steps'.cons [] (by kernel_rfl) ?_ (Steps'.cons [] (by kernel_rfl) ?_ (Steps'.cons [] (by kernel_rfl) ?_ (Steps'.cons [] (by kernel_rfl) ?_ (Steps'.cons [] (by kernel_rfl) ?_ (Steps'.cons [] (by kernel_rfl) ?_ (Steps'.cons [(1, 66), (2, 67), (3, 68), (4, 69), (5, 70), (6, 71)] (by kernel_rfl) ?_ (Steps'.cons [] (by kernel_rfl) ?_ (Steps'.cons [] (by kernel_rfl) ?_ (Steps'.cons [] (by kernel_rfl) ?_ (Steps'.cons [] (by kernel_rfl) ?_ (Steps'.cons [] (by kernel_rfl) ?_ (Steps'.cons [(0, 65), (7, 72), (8, 73), (9, 74), (10, 75), (11, 76), (12, 77)] (by kernel_rfl) ?_ (Steps'.cons [(13, 78)] (by kernel_rfl) ?_ (Steps'.nil)))))))))))))))
        · intro l t w7 hJ hl hd bb hbb K hK
          have f0 := (HAc.out.kept0 hJ.1.gb) 0 _ rfl
          have f1 := (HAc.out.kept0 hJ.1.gb) 1 _ rfl
          have f2 := (HAc.out.kept0 hJ.1.gb) 2 _ rfl
          have f3 := (HAc.out.kept0 hJ.1.gb) 3 _ rfl
          have f4 := (HAc.out.kept0 hJ.1.gb) 4 _ rfl
          have f5 := (HAc.out.kept0 hJ.1.gb) 5 _ rfl
          simp only [puts, Act.put, List.setIfInBounds_toArray, List.set_cons_zero, List.set_cons_succ] at hbb
          subst hbb
          go_simp
          exact hK.out _ _ (hJ.pure (gb_refl _ _) rfl rfl rfl)
        · intro l t w7 hJ hl hd bb hbb K hK
          have f0 := (HAc.out.kept0 hJ.1.gb) 0 _ rfl
          have f1 := (HAc.out.kept0 hJ.1.gb) 1 _ rfl
          have f2 := (HAc.out.kept0 hJ.1.gb) 2 _ rfl
          have f3 := (HAc.out.kept0 hJ.1.gb) 3 _ rfl
          have f4 := (HAc.out.kept0 hJ.1.gb) 4 _ rfl
          have f5 := (HAc.out.kept0 hJ.1.gb) 5 _ rfl
          simp only [puts, Act.put, List.setIfInBounds_toArray, List.set_cons_zero, List.set_cons_succ] at hbb
          subst hbb
          go_simp
          exact hK.out _ _ (hJ.pure (gb_refl _ _) rfl rfl rfl)
        · intro l t w7 hJ hl hd bb hbb K hK
          have f0 := (HRc.out.kept0 hJ.1.gb) 0 _ rfl
          have f1 := (HRc.out.kept0 hJ.1.gb) 1 _ rfl
          have f2 := (HRc.out.kept0 hJ.1.gb) 2 _ rfl
          have f3 := (HRc.out.kept0 hJ.1.gb) 3 _ rfl
          simp only [puts, Act.put, List.setIfInBounds_toArray, List.set_cons_zero, List.set_cons_succ] at hbb
          subst hbb
          go_simp
          exact hK.out _ _ (hJ.pure (gb_refl _ _) rfl rfl rfl)
        · intro l t w7 hJ hl hd bb hbb K hK
          have f0 := (HSc.out.kept0 hJ.1.gb) 0 _ rfl
          have f1 := (HSc.out.kept0 hJ.1.gb) 1 _ rfl
          have f2 := (HSc.out.kept0 hJ.1.gb) 2 _ rfl
          have f3 := (HSc.out.kept0 hJ.1.gb) 3 _ rfl
          have f4 := (HSc.out.kept0 hJ.1.gb) 4 _ rfl
          have f5 := (HSc.out.kept0 hJ.1.gb) 5 _ rfl
          simp only [puts, Act.put, List.setIfInBounds_toArray, List.set_cons_zero, List.set_cons_succ] at hbb
          subst hbb
          go_simp
          exact hK.out _ _ (hJ.pure (gb_refl _ _) rfl rfl rfl)
        · intro l t w7 hJ hl hd bb hbb K hK
          simp only [puts, Act.put, List.setIfInBounds_toArray, List.set_cons_zero, List.set_cons_succ] at hbb
          subst hbb
          go_simp
          exact hK.out _ _ (hJ.pure (gb_refl _ _) rfl rfl rfl)
        · intro l t w7 hJ hl hd bb hbb K hK
          simp only [puts, Act.put, List.setIfInBounds_toArray, List.set_cons_zero, List.set_cons_succ] at hbb
          subst hbb
          go_simp
          exact hK.out _ _ (hJ.pure (gb_refl _ _) rfl rfl rfl)
        · intro l t w7 hJ hl hd bb hbb K hK
          simp only [puts, Act.put, List.setIfInBounds_toArray, List.set_cons_zero, List.set_cons_succ] at hbb
          subst hbb
          go_simp
          exact hK.out _ _ (hJ.pure (gb_refl _ _) rfl rfl rfl)
        · intro l t w7 hJ hl hd bb hbb K hK
          have e1 := hJ.1.val 1 _ rfl (hd 1 (by kernel_rfl))
          have e2 := hJ.1.val 2 _ rfl (hd 2 (by kernel_rfl))
          have e3 := hJ.1.val 3 _ rfl (hd 3 (by kernel_rfl))
          have e4 := hJ.1.val 4 _ rfl (hd 4 (by kernel_rfl))
          have e5 := hJ.1.val 5 _ rfl (hd 5 (by kernel_rfl))
          have e6 := hJ.1.val 6 _ rfl (hd 6 (by kernel_rfl))
          simp only [puts, Act.put, List.setIfInBounds_toArray, List.set_cons_zero, List.set_cons_succ] at hbb
          rw [e1] at hbb
          rw [e2] at hbb
          rw [e3] at hbb
          rw [e4] at hbb
          rw [e5] at hbb
          rw [e6] at hbb
          subst hbb
          go_simp
          refine (idraw_of (q := resB kk dw (In0 q0 q1 q2 q3 px py Xd0 Yd0 sx0 sy0 sh sw) (fun r c => px0 kk k2 o (toP dw (sz kk) p r c) (srcAt k2 sw s q0 q1 px py Xd0 Yd0 sx0 sy0 r c)) p) (by have := HK.out; omega) (HD.out.1.kept0 (gb_trans HGc.out hJ.1.gb)) (HS.out.1.kept0 (gb_trans HGc.out hJ.1.gb)) (vk_dat (by have := HK.out; omega) HV.out HD.out.2.1 hn) HGS.out.2.1
            (fun w' B B' c c' b b' A A' td ts h1 h2 h3 => mdm0_all ho (by have := HK.out; omega) hk6 h1 h2 HGD.out.1 HGS.out.1 HD.out.2.1 HS.out.2.1 HGS.out.2.2.2.1 h3 (by have h1 := HNR.out; unfold nr at h1; unfold sm; omega) (by have h1 := HNR.out; unfold nr at h1; unfold sm; omega) (by have h1 := HNR.out; have h2 := HXY.out; unfold nr at h1 h2; unfold sm; omega) (by have h1 := HNR.out; have h2 := HXY.out; unfold nr at h1 h2; unfold sm; omega) (by have h1 := HNR.out; have h2 := HXY.out; unfold nr at h1 h2; unfold sm; omega) (by have h1 := HNR.out; have h2 := HXY.out; unfold nr at h1 h2; unfold sm; omega))).mono ?_
          rintro e w8 ⟨A8, c8, rfl, ho8, hg⟩
          exact hK.out _ _ (hJ.own hg rfl rfl ((ho8.low hJ.1.gb.size).congr (fun i hi => by rw [← HQ.out]; exact (cutN_lt hi).symm)))
        · intro l t w7 hJ hl hd bb hbb K hK
          have f0 := (HB4.out.kept0 hJ.1.gb) 0 _ rfl
          have f1 := (HB4.out.kept0 hJ.1.gb) 1 _ rfl
          have f2 := (HB4.out.kept0 hJ.1.gb) 2 _ rfl
          have f3 := (HB4.out.kept0 hJ.1.gb) 3 _ rfl
          simp only [puts, Act.put, List.setIfInBounds_toArray, List.set_cons_zero, List.set_cons_succ] at hbb
          subst hbb
          go_simp
          exact hK.out _ _ (hJ.pure (gb_refl _ _) rfl rfl rfl)
        · intro l t w7 hJ hl hd bb hbb K hK
          have f0 := (HP2.out.kept0 hJ.1.gb) 0 _ rfl
          have f1 := (HP2.out.kept0 hJ.1.gb) 1 _ rfl
          simp only [puts, Act.put, List.setIfInBounds_toArray, List.set_cons_zero, List.set_cons_succ] at hbb
          subst hbb
          go_simp
          exact hK.out _ _ (hJ.pure (gb_refl _ _) rfl rfl rfl)
        · intro l t w7 hJ hl hd bb hbb K hK
          simp only [puts, Act.put, List.setIfInBounds_toArray, List.set_cons_zero, List.set_cons_succ] at hbb
          subst hbb
          go_simp
          exact hK.out _ _ (hJ.pure (gb_refl _ _) rfl rfl rfl)
        · intro l t w7 hJ hl hd bb hbb K hK
          have f0 := (HSc.out.kept0 hJ.1.gb) 0 _ rfl
          have f1 := (HSc.out.kept0 hJ.1.gb) 1 _ rfl
          have f2 := (HSc.out.kept0 hJ.1.gb) 2 _ rfl
          have f3 := (HSc.out.kept0 hJ.1.gb) 3 _ rfl
          have f4 := (HSc.out.kept0 hJ.1.gb) 4 _ rfl
          have f5 := (HSc.out.kept0 hJ.1.gb) 5 _ rfl
          simp only [puts, Act.put, List.setIfInBounds_toArray, List.set_cons_zero, List.set_cons_succ] at hbb
          subst hbb
          go_simp
          exact hK.out _ _ (hJ.pure (gb_refl _ _) rfl rfl rfl)
        · intro l t w7 hJ hl hd bb hbb K hK
          simp only [puts, Act.put, List.setIfInBounds_toArray, List.set_cons_zero, List.set_cons_succ] at hbb
          subst hbb
          go_simp
          exact hK.out _ _ (hJ.pure (gb_refl _ _) rfl rfl rfl)
        · intro l t w7 hJ hl hd bb hbb K hK
          obtain ⟨A8, c8, e7, ho8⟩ := hJ.2 (hd 7 (by kernel_rfl))
          have e0 := hJ.1.val 0 _ rfl (hd 0 (by kernel_rfl))
          have e8 := hJ.1.val 8 _ rfl (hd 8 (by kernel_rfl))
          have e9 := hJ.1.val 9 _ rfl (hd 9 (by kernel_rfl))
          have e10 := hJ.1.val 10 _ rfl (hd 10 (by kernel_rfl))
          have e11 := hJ.1.val 11 _ rfl (hd 11 (by kernel_rfl))
          have e12 := hJ.1.val 12 _ rfl (hd 12 (by kernel_rfl))
          simp only [puts, Act.put, List.setIfInBounds_toArray, List.set_cons_zero, List.set_cons_succ] at hbb
          rw [e0] at hbb
          rw [e7] at hbb
          rw [e8] at hbb
          rw [e9] at hbb
          rw [e10] at hbb
          rw [e11] at hbb
          rw [e12] at hbb
          subst hbb
          go_simp
          obtain ⟨gq1, gq2⟩ := ho8.le
          obtain ⟨lawB, law1, law2⟩ := draw0_law (kd := kk) (ks := k2) (op := o) (k0 := k0) (k1 := k1) (X0 := X0) (Y0 := Y0) (sx0 := sx0) (sy0 := sy0) (by have := HK.out; omega) HD.out.2.1 HS.out.2.1 HGS.out.2.2.2.1 (by have := HC.out; rw [HGD.out.2.1, HGD.out.2.2.1, HT12.out.1, HT12.out.2] at this; exact this) (by have := HGS.out.2.2.2.2; omega)
          rw [← HGD.out.2.2.2.1, HQ.out] at lawB law1 law2
          refine (drawnN_c _ HK.out ho (HD.out.1.kept0 (gb_trans HGc.out hJ.1.gb)) ho8.rd (HS.out.1.kept0 (gb_trans HGc.out hJ.1.gb)) HD.out.2.1 lawB HS.out.2.1 HD.out.2.2.2.1 HD.out.2.2.2.2 gq1 gq2 HS.out.2.2.2.1 HS.out.2.2.2.2 HGD.out.2.1 HGD.out.2.2.1 HGD.out.2.2.2.1 HGD.out.2.2.2.2.1 HGD.out.2.2.2.2.2.1 (by have := HGD.out.2.2.2.2.2.2; omega) HGS.out.2.2.1 (pm_src HGS.out.2.2.2.1) (cl0_small HC.out) law1 law2).mono ?_
          rintro e w8 ⟨rfl, hg⟩
          exact hK.out _ _ (hJ.pure hg rfl rfl rfl)
        · intro l t w7 hJ hl hd bb hbb K hK
          have e13 := hJ.1.val 13 _ rfl (hd 13 (by kernel_rfl))
          simp only [puts, Act.put, List.setIfInBounds_toArray, List.set_cons_zero, List.set_cons_succ] at hbb
          rw [e13] at hbb
          subst hbb
          go_simp
          exact hK.out _ _ (hJ.pure (gb_refl _ _) rfl rfl rfl)
      intro l t w9 hJ hl
      have e14 := hJ.1.val 14 _ rfl (hl 14 (by decide))
      have HG9 := hid (gb_trans HGc.out hJ.1.gb)
      clear hJ hl
      simp only [puts, Act.put, List.setIfInBounds_toArray, List.set_cons_zero, List.set_cons_succ]
      rw [e14]
      clear e14
      go_wp2_with fail
      go_ret
      exact ⟨rfl, HG9.out⟩
    · go_enter Tryz.func7, Tryz.ntmps7
      go_wp2_with fail
      refine (fits_y _ hn).mono ?_
      rintro e w1 ⟨rfl, hg⟩
      have hh1 := gb_trans (a := w) (by (repeat (first | exact gb_refl _ _ | assumption | refine gb_drew ?_ | refine gb_drewN ?_ _ | refine gb_alloc ?_ _ | refine gb_setCell ?_ (.inr (by simp <;> omega)) _))) hg
      have HG1 := hid hh1
      have hS : CellsAt w1 (w.heap.size + 1 + 1) [.int .i64 ks, .int .i64 X0, .int .i64 Y0, .int .i64 X1, .int .i64 Y1, .slice As n' cs] := CellsAt.kept0 (fun i v hv => by (rcases i with _ | _ | _ | _ | _ | _ | i <;> (first | (cases hv; go_simp; done) | (simp at hv; done)))) hg
      have HS1 := hid hS
      clear hS
      have zS := HS1.out.lt
      clear hg hh1
      have s0' := HS1.out 0 _ rfl
      have s1' := HS1.out 1 _ rfl
      have s2' := HS1.out 2 _ rfl
      have s3' := HS1.out 3 _ rfl
      have s4' := HS1.out 4 _ rfl
      have s5' := HS1.out 5 _ rfl
      go_wp2_with fail
      refine (fits_n _ hn').mono ?_
      rintro e w2 ⟨rfl, hg⟩
      have hh2 := gb_trans (a := w1) (by (repeat (first | exact gb_refl _ _ | assumption | refine gb_drew ?_ | refine gb_drewN ?_ _ | refine gb_alloc ?_ _ | refine gb_setCell ?_ (.inr (by simp <;> omega)) _))) hg
      have HG2 := hid (gb_trans HG1.out hh2)
      clear zS
      have HS2 := hid (HS1.out.kept0 hh2)
      have zS := HS2.out.lt
      clear s0' s1' s2' s3' s4' s5'
      clear hg hh2
      go_wp2_with fail
      go_ret
      exact ⟨rfl, HG2.out⟩
  · go_enter Tryz.func7, Tryz.ntmps7
    go_wp2_with fail
    refine (fits_n _ hn).mono ?_
    rintro e w1 ⟨rfl, hg⟩
    have hh1 := gb_trans (a := w) (by (repeat (first | exact gb_refl _ _ | assumption | refine gb_drew ?_ | refine gb_drewN ?_ _ | refine gb_alloc ?_ _ | refine gb_setCell ?_ (.inr (by simp <;> omega)) _))) hg
    have HG1 := hid hh1
    clear hg hh1
    go_wp2_with fail
    go_ret
    exact ⟨rfl, HG1.out⟩
end Go.Proofs.YtgjpohmjkhgpfaaGreat
