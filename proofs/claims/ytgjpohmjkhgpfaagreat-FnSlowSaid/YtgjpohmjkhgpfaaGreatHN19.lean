/- impl.Slow, over what DrawMask does to an image that hides its kind. -/
import Derived.Test.YtgjpohmjkhgpfaaGreatHb
import Derived.Test.YtgjpohmjkhgpfaaGreatHN18
import Derived.Deep.RegionWith
set_option linter.unusedSimpArgs false
set_option linter.unusedVariables false
namespace Go.Proofs.YtgjpohmjkhgpfaaGreat
open Go.RowKit

set_option maxRecDepth 100000 in
set_option maxHeartbeats 8000000 in
theorem islow_of {w : World} {kd ks km n n' n'' cd cs cm : Nat} {Xd0 Yd0 Xd1 Yd1 dx0 dy0 dx1 dy1 X0 Y0 X1 Y1 sx0 sy0 sx1 sy1 Xm0 Ym0 Xm1 Ym1 mx0 my0 mx1 my1 r0 r1 r2 r3 px py qx qy op : Int} {p s m q : Nat → Int} {Ad As Am : Option Addr} (hkd : kd = 0 ∨ kd = 2 ∨ kd = 4)
    (hd : Rd w Ad n p) (hs : Rd w As n' s) (hm : Rd w Am n'' m) (Dd : Dat kd Xd0 Yd0 Xd1 Yd1 dx0 dy0 dx1 dy1 n p) (Ds : Dat ks X0 Y0 X1 Y1 sx0 sy0 sx1 sy1 n' s) (Dm : Dat km Xm0 Ym0 Xm1 Ym1 mx0 my0 mx1 my1 n'' m)
    (H : ∀ (w' : World) (B B' B'' c c' c'' b b' b'' : Nat) (A A' A'' : Option Addr) (td ts tm : TypeId), IM w' B dx0 dy0 dx1 dy1 n p A c b kd td → IM w' B' sx0 sy0 sx1 sy1 n' s A' c' b' ks ts → IM w' B'' mx0 my0 mx1 my1 n'' m A'' c'' b'' km tm → Apart A b' A' → Apart A b'' A'' →
      Calls Tryz.prog 42 #[.iface 83 (vPl td b), vR r0 r1 r2 r3, .iface ts (.pointer (some ⟨b', 0, none⟩)), vP px py, .iface tm (.pointer (some ⟨b'', 0, none⟩)), vP qx qy, .int .i64 op] w' (DMout w' B n c A q)) :
    Calls Tryz.prog 24 #[vI kd Xd0 Yd0 Xd1 Yd1 Ad n cd, vR r0 r1 r2 r3, vI ks X0 Y0 X1 Y1 As n' cs, .int .i64 px, .int .i64 py, vI km Xm0 Ym0 Xm1 Ym1 Am n'' cm, .int .i64 qx, .int .i64 qy, .int .i64 op] w (Out w n q) := by
  have HH := hid H
  have Hd := hid hd
  have Hs := hid hs
  have Hm := hid hm
  have HDd := hid Dd
  have HDs := hid Ds
  have HDm := hid Dm
  have Hk := hid hkd
  clear H hd hs hm Dd Ds Dm hkd
  go_enter Tryz.func24, Tryz.ntmps24
  go_wp2_with fail
  have HX := hid (gb_trans (gb_refl w none) (gb_alloc (gb_alloc (gb_alloc (gb_alloc (gb_refl w none) (.cells #[.int .i64 kd, .int .i64 Xd0, .int .i64 Yd0, .int .i64 Xd1, .int .i64 Yd1, .slice Ad n cd] 24)) (.cells #[.int .i64 r0, .int .i64 r1, .int .i64 r2, .int .i64 r3] 25)) (.cells #[.int .i64 ks, .int .i64 X0, .int .i64 Y0, .int .i64 X1, .int .i64 Y1, .slice As n' cs] 24)) (.cells #[.int .i64 km, .int .i64 Xm0, .int .i64 Ym0, .int .i64 Xm1, .int .i64 Ym1, .slice Am n'' cm] 24)))
  go_region_held3 (fun W => W.cell? ⟨w.heap.size, 0, none⟩ = some (.int .i64 kd) ∧ W.cell? ⟨w.heap.size, 1, none⟩ = some (.int .i64 Xd0) ∧ W.cell? ⟨w.heap.size, 2, none⟩ = some (.int .i64 Yd0) ∧ W.cell? ⟨w.heap.size, 3, none⟩ = some (.int .i64 Xd1) ∧ W.cell? ⟨w.heap.size, 4, none⟩ = some (.int .i64 Yd1) ∧ W.cell? ⟨w.heap.size, 5, none⟩ = some (.slice Ad n cd) ∧ W.cell? ⟨w.heap.size + 1, 0, none⟩ = some (.int .i64 r0) ∧ W.cell? ⟨w.heap.size + 1, 1, none⟩ = some (.int .i64 r1) ∧ W.cell? ⟨w.heap.size + 1, 2, none⟩ = some (.int .i64 r2) ∧ W.cell? ⟨w.heap.size + 1, 3, none⟩ = some (.int .i64 r3) ∧ W.cell? ⟨w.heap.size + 2, 0, none⟩ = some (.int .i64 ks) ∧ W.cell? ⟨w.heap.size + 2, 1, none⟩ = some (.int .i64 X0) ∧ W.cell? ⟨w.heap.size + 2, 2, none⟩ = some (.int .i64 Y0) ∧ W.cell? ⟨w.heap.size + 2, 3, none⟩ = some (.int .i64 X1) ∧ W.cell? ⟨w.heap.size + 2, 4, none⟩ = some (.int .i64 Y1) ∧ W.cell? ⟨w.heap.size + 2, 5, none⟩ = some (.slice As n' cs) ∧ W.cell? ⟨w.heap.size + 3, 0, none⟩ = some (.int .i64 km) ∧ W.cell? ⟨w.heap.size + 3, 1, none⟩ = some (.int .i64 Xm0) ∧ W.cell? ⟨w.heap.size + 3, 2, none⟩ = some (.int .i64 Ym0) ∧ W.cell? ⟨w.heap.size + 3, 3, none⟩ = some (.int .i64 Xm1) ∧ W.cell? ⟨w.heap.size + 3, 4, none⟩ = some (.int .i64 Ym1) ∧ W.cell? ⟨w.heap.size + 3, 5, none⟩ = some (.slice Am n'' cm)) (first | go_simp | assumption)
    (first
    | (go_at_call_of 36 (Value.slice Ad n cd); refine (image_c _ (Hd.out.kept0 (gb_drew HX.out)) HDd.out.2.2.1).mono ?_; rintro e w2 ⟨A, c, rfl, ho2, hg2⟩
       have HS2 := box4_kept (by assumption) hg2
       have HG2 := hid (gb_trans (gb_drew HX.out) hg2)
       have HO2 := hid ho2
       clear hg2 ho2)
    | (go_at_call_of 36 (Value.slice As n' cs); refine (image_c _ (Hs.out.kept0 HG2.out) HDs.out.2.2.1).mono ?_; rintro e w3 ⟨A', c', rfl, ho3, hg3⟩
       have HS3 := box4_kept (by assumption) hg3
       have HG3 := hid (gb_trans HG2.out hg3)
       have HO3 := hid ho3
       have HO2' := hid (HO2.out.kept0 hg3)
       clear hg3 ho3)
    | (go_at_call_of 36 (Value.slice Am n'' cm); refine (image_c _ (Hm.out.kept0 HG3.out) HDm.out.2.2.1).mono ?_; rintro e w4 ⟨A'', c'', rfl, ho4, hg4⟩
       have HS4 := box4_kept (by assumption) hg4
       have HG4 := hid (gb_trans HG3.out hg4)
       have HO4 := hid ho4
       have HO3' := hid (HO3.out.kept0 hg4)
       have HO2'' := hid (HO2'.out.kept0 hg4)
       clear hg4 ho4)
    | (go_at_call 37; refine (zzslow_of Hk.out HO2''.out.rd HO3'.out.rd HO4.out.rd HDd.out HDs.out HDm.out HH.out).mono ?_; rintro e w5 ⟨A5, c5, rfl, ho5, hg5⟩
       have HS5 := box4_kept (by assumption) hg5
       have hz5 := HG4.out.size
       have HF := hid (And.intro (ho5.low (B' := w.heap.size) hz5) (gb_trans HG4.out hg5))
       clear hg5 ho5 hz5))
  all_goals (
    go_wp2_with fail
    go_ret
    exact ⟨_, _, rfl, HF.out.1, HF.out.2⟩)
end Go.Proofs.YtgjpohmjkhgpfaaGreat
