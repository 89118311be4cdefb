/- imagedraw.ZZSlow, over what DrawMask does to an image that hides its kind. -/
import Derived.Test.YtgjpohmjkhgpfaaGreatHb
import Derived.Test.YtgjpohmjkhgpfaaGreatHSC
import Derived.Deep.RegionHeld3
set_option linter.unusedSimpArgs false
set_option linter.unusedVariables false
namespace Go.Proofs.YtgjpohmjkhgpfaaGreat
open Go.RowKit

set_option maxRecDepth 100000 in
set_option maxHeartbeats 8000000 in
theorem zzslow_of {w : World} {kd ks km n n' n'' cd cs cm : Nat} {Xd0 Yd0 Xd1 Yd1 dx0 dy0 dx1 dy1 X0 Y0 X1 Y1 sx0 sy0 sx1 sy1 Xm0 Ym0 Xm1 Ym1 mx0 my0 mx1 my1 r0 r1 r2 r3 px py qx qy op : Int} {p s m q : Nat → Int} {Ad As Am : Option Addr} (hkd : kd = 0 ∨ kd = 2 ∨ kd = 4)
    (hd : Rd w Ad n p) (hs : Rd w As n' s) (hm : Rd w Am n'' m) (Dd : Dat kd Xd0 Yd0 Xd1 Yd1 dx0 dy0 dx1 dy1 n p) (Ds : Dat ks X0 Y0 X1 Y1 sx0 sy0 sx1 sy1 n' s) (Dm : Dat km Xm0 Ym0 Xm1 Ym1 mx0 my0 mx1 my1 n'' m)
    (H : ∀ (w' : World) (B B' B'' c c' c'' b b' b'' : Nat) (A A' A'' : Option Addr) (td ts tm : TypeId), IM w' B dx0 dy0 dx1 dy1 n p A c b kd td → IM w' B' sx0 sy0 sx1 sy1 n' s A' c' b' ks ts → IM w' B'' mx0 my0 mx1 my1 n'' m A'' c'' b'' km tm → Apart A b' A' → Apart A b'' A'' →
      Calls Tryz.prog 42 #[.iface 83 (vPl td b), vR r0 r1 r2 r3, .iface ts (.pointer (some ⟨b', 0, none⟩)), vP px py, .iface tm (.pointer (some ⟨b'', 0, none⟩)), vP qx qy, .int .i64 op] w' (DMout w' B n c A q)) :
    Calls Tryz.prog 37 #[vI kd Xd0 Yd0 Xd1 Yd1 Ad n cd, vR r0 r1 r2 r3, vI ks X0 Y0 X1 Y1 As n' cs, .int .i64 px, .int .i64 py, vI km Xm0 Ym0 Xm1 Ym1 Am n'' cm, .int .i64 qx, .int .i64 qy, .int .i64 op] w (Out w n q) := by
  have hk6 : kd ≠ 6 := by omega
  have HH := hid H
  have Hd := hid hd
  have Hs := hid hs
  have Hm := hid hm
  have HDd := hid Dd
  have HDs := hid Ds
  have HDm := hid Dm
  have Hk := hid hkd
  clear H hd hs hm Dd Ds Dm hkd
  go_enter Tryz.func37, Tryz.ntmps37
  go_wp2_with fail
  refine (make_d _ (Hd.out.kept0 (gb_alloc (gb_alloc (gb_alloc (gb_alloc (gb_refl _ _) _) _) _) _)) HDd.out).mono ?_
  rintro e w1 ⟨td, b, A, c, rfl, hI, hg⟩
  have HT := hid (hI.tdst Hk.out)
  have TA := fun (w' : World) => ta_draw (a := ⟨b, 0, none⟩) HT.out w'
  have HI := hid hI
  have Hg := hid hg
  obtain ⟨cc, ff⟩ := gb_rules hg
  have hz := hg.size
  simp at hz
  have hb : b < w1.heap.size := hI.ge.2
  have hbB := hI.ge.1
  simp at hbB
  have hb0 := boxm_kept (br := w.heap.size + 1) (bs := w.heap.size + 2) (bm := w.heap.size + 3) (ks := ks) (X0 := X0) (Y0 := Y0) (X1 := X1) (Y1 := Y1) (As := As) (n' := n') (cs := cs) (km := km) (Xm0 := Xm0) (Ym0 := Ym0) (Xm1 := Xm1) (Ym1 := Ym1) (Am := Am) (n'' := n'') (cm := cm) (r0 := r0) (r1 := r1) (r2 := r2) (r3 := r3) ⟨by go_simp, by go_simp, by go_simp, by go_simp, by go_simp, by go_simp, by go_simp, by go_simp, by go_simp, by go_simp, by go_simp, by go_simp, by go_simp, by go_simp, by go_simp, by go_simp⟩ (gb_refl ((((w.alloc (.cells #[.int .i64 kd, .int .i64 Xd0, .int .i64 Yd0, .int .i64 Xd1, .int .i64 Yd1, .slice Ad n cd] 64)).alloc (.cells #[.int .i64 r0, .int .i64 r1, .int .i64 r2, .int .i64 r3] 25)).alloc (.cells #[.int .i64 ks, .int .i64 X0, .int .i64 Y0, .int .i64 X1, .int .i64 Y1, .slice As n' cs] 64)).alloc (.cells #[.int .i64 km, .int .i64 Xm0, .int .i64 Ym0, .int .i64 Xm1, .int .i64 Ym1, .slice Am n'' cm] 64)) none)
  have HB0 := hid hb0
  have HBX := hid (boxm_kept hb0 hg)
  clear hb0
  have HG1 := hid (gb_trans (gb_alloc (gb_alloc (gb_alloc (gb_alloc (gb_refl w none) _) _) _) _) hg)
  clear hI hg cc ff
  go_wp2_with fail
  have x1 : w.heap.size + 1 < w1.heap.size := by omega
  have x2 : w.heap.size + 2 < w1.heap.size := by omega
  have x3 : w.heap.size + 3 < w1.heap.size := by omega
  obtain ⟨a0, a1, a2, a3, a4, a5, a6, a7, a8, a9, a10, a11, a12, a13, a14, a15⟩ := HBX.out
  go_region_held3 (fun W => W.cell? ⟨w.heap.size + 1, 0, none⟩ = some (.int .i64 r0) ∧ W.cell? ⟨w.heap.size + 1, 1, none⟩ = some (.int .i64 r1) ∧ W.cell? ⟨w.heap.size + 1, 2, none⟩ = some (.int .i64 r2) ∧ W.cell? ⟨w.heap.size + 1, 3, none⟩ = some (.int .i64 r3) ∧ W.cell? ⟨w.heap.size + 2, 0, none⟩ = some (.int .i64 ks) ∧ W.cell? ⟨w.heap.size + 2, 1, none⟩ = some (.int .i64 X0) ∧ W.cell? ⟨w.heap.size + 2, 2, none⟩ = some (.int .i64 Y0) ∧ W.cell? ⟨w.heap.size + 2, 3, none⟩ = some (.int .i64 X1) ∧ W.cell? ⟨w.heap.size + 2, 4, none⟩ = some (.int .i64 Y1) ∧ W.cell? ⟨w.heap.size + 2, 5, none⟩ = some (.slice As n' cs) ∧ W.cell? ⟨w.heap.size + 3, 0, none⟩ = some (.int .i64 km) ∧ W.cell? ⟨w.heap.size + 3, 1, none⟩ = some (.int .i64 Xm0) ∧ W.cell? ⟨w.heap.size + 3, 2, none⟩ = some (.int .i64 Ym0) ∧ W.cell? ⟨w.heap.size + 3, 3, none⟩ = some (.int .i64 Xm1) ∧ W.cell? ⟨w.heap.size + 3, 4, none⟩ = some (.int .i64 Ym1) ∧ W.cell? ⟨w.heap.size + 3, 5, none⟩ = some (.slice Am n'' cm)) (first | go_simp | assumption)
    (first
    | (go_at_call 43; refine (zrect_c r0 r1 r2 r3 _).mono ?_; rintro e w2 ⟨rfl, hg2⟩
       have HS2 := boxm_kept (by assumption) hg2
       have HG2 := hid (gb_trans (gb_drew HG1.out) hg2)
       have HR2 := hid hg2
       have HI2 := hid (HI.out.kept0 (gb_trans (gb_drew (gb_refl _ _)) hg2))
       clear hg2)
    | (go_at_call_of 41 (Value.slice As n' cs); refine (make_d _ (Hs.out.kept0 HG2.out) HDs.out).mono ?_; rintro e w3 ⟨ts, b', A', c', rfl, hI3, hg3⟩
       have HS3 := boxm_kept (by assumption) hg3
       have HG3 := hid (gb_trans HG2.out hg3)
       have HR3 := hid hg3
       have HI3 := hid (HI2.out.kept0 hg3)
       have HJ3 := hid hI3
       have hz2 := HG2.out.size
       have HAP : Hid (Apart A b' A') := hid (fun a ha => by
         have q1 := (HI2.out.alt a ha).1
         have q2 := hI3.ge.1
         exact ⟨by omega, fun a' ha' => by have q3 := (hI3.alt a' ha').2; omega⟩)
       clear hg3 hI3)
    | (go_at_call_of 41 (Value.slice Am n'' cm); refine (make_d _ (Hm.out.kept0 HG3.out) HDm.out).mono ?_; rintro e w4 ⟨tm, b'', A'', c'', rfl, hI4, hg4⟩
       have HS4 := boxm_kept (by assumption) hg4
       have HG4 := hid (gb_trans HG3.out hg4)
       have HR4 := hid hg4
       have HI4 := hid (HI3.out.kept0 hg4)
       have HJ4 := hid (HJ3.out.kept0 hg4)
       have HM4 := hid hI4
       have hz3 := HG3.out.size
       have HAQ : Hid (Apart A b'' A'') := hid (fun a ha => by
         have q1 := (HI3.out.alt a ha).1
         have q2 := hI4.ge.1
         exact ⟨by omega, fun a' ha' => by have q3 := (hI4.alt a' ha').2; omega⟩)
       clear hg4 hI4)
    | (go_at_call 42; refine (HH.out _ w.heap.size _ _ _ _ _ _ _ _ _ _ _ _ _ _ (HI4.out.low (by simp <;> omega)) HJ4.out HM4.out HAP.out HAQ.out).mono ?_; rintro e w5 ⟨rfl, h4, h5⟩
       have hGW := gb_trans (gb_drew Hg.out) (gb_trans HR2.out (gb_trans HR3.out HR4.out))
       have hIW := HI4.out
       have hal := HI.out.alt
       have HG5 := gb_new hGW h4 (fun g hg => by
         cases hA : A with
         | none => rw [hA] at hg; cases hg
         | some a => rw [hA] at hg; injection hg with hg; subst hg; exact (hal a hA).2)
       have HS5 := boxm_kept HB0.out HG5
       have HC5 := (World.cell?_of_block (h4.block b hIW.ge.2 (fun e => by
         cases hA : A with
         | none => rw [hA] at e; cases e
         | some a => rw [hA] at e; injection e with e; exact hIW.ne hk6 a hA e.symm))).trans (hIW.cell0 hk6)
       have HF := hid (And.intro h5 (gb_trans (gb_alloc (gb_alloc (gb_alloc (gb_alloc (gb_refl w none) _) _) _) _) HG5))
       clear h4 h5 hGW hIW hal))
  all_goals (
    go_wp2_with fail
    refine (pixels_c HT.out HC5).mono ?_
    rintro e w6 ⟨rfl, rfl⟩
    go_wp2_with fail
    go_ret
    exact ⟨_, _, rfl, HF.out.1, HF.out.2⟩)
end Go.Proofs.YtgjpohmjkhgpfaaGreat
