/- impl.Draw, over what DrawMask does. -/
import Derived.Test.YtgjpohmjkhgpfaaGreatN5
import Derived.Deep.RegionWith
set_option linter.unusedSimpArgs false
set_option linter.unusedVariables false
namespace Go.Proofs.YtgjpohmjkhgpfaaGreat
open Go.RowKit

theorem box3_kept {w w' : World} {bd br bs n n' cd cs : Nat} {r0 r1 r2 r3 kd Xd0 Yd0 Xd1 Yd1 ks X0 Y0 X1 Y1 : Int} {Ad As : Option Addr} (h : w.cell? ⟨bd, 0, none⟩ = some (.int .i64 kd) ∧ w.cell? ⟨bd, 1, none⟩ = some (.int .i64 Xd0) ∧ w.cell? ⟨bd, 2, none⟩ = some (.int .i64 Yd0) ∧ w.cell? ⟨bd, 3, none⟩ = some (.int .i64 Xd1) ∧ w.cell? ⟨bd, 4, none⟩ = some (.int .i64 Yd1) ∧ w.cell? ⟨bd, 5, none⟩ = some (.slice Ad n cd) ∧ w.cell? ⟨br, 0, none⟩ = some (.int .i64 r0) ∧ w.cell? ⟨br, 1, none⟩ = some (.int .i64 r1) ∧ w.cell? ⟨br, 2, none⟩ = some (.int .i64 r2) ∧ w.cell? ⟨br, 3, none⟩ = some (.int .i64 r3) ∧ w.cell? ⟨bs, 0, none⟩ = some (.int .i64 ks) ∧ w.cell? ⟨bs, 1, none⟩ = some (.int .i64 X0) ∧ w.cell? ⟨bs, 2, none⟩ = some (.int .i64 Y0) ∧ w.cell? ⟨bs, 3, none⟩ = some (.int .i64 X1) ∧ w.cell? ⟨bs, 4, none⟩ = some (.int .i64 Y1) ∧ w.cell? ⟨bs, 5, none⟩ = some (.slice As n' cs)) (hg : w.grownBy w' none) : w'.cell? ⟨bd, 0, none⟩ = some (.int .i64 kd) ∧ w'.cell? ⟨bd, 1, none⟩ = some (.int .i64 Xd0) ∧ w'.cell? ⟨bd, 2, none⟩ = some (.int .i64 Yd0) ∧ w'.cell? ⟨bd, 3, none⟩ = some (.int .i64 Xd1) ∧ w'.cell? ⟨bd, 4, none⟩ = some (.int .i64 Yd1) ∧ w'.cell? ⟨bd, 5, none⟩ = some (.slice Ad n cd) ∧ w'.cell? ⟨br, 0, none⟩ = some (.int .i64 r0) ∧ w'.cell? ⟨br, 1, none⟩ = some (.int .i64 r1) ∧ w'.cell? ⟨br, 2, none⟩ = some (.int .i64 r2) ∧ w'.cell? ⟨br, 3, none⟩ = some (.int .i64 r3) ∧ w'.cell? ⟨bs, 0, none⟩ = some (.int .i64 ks) ∧ w'.cell? ⟨bs, 1, none⟩ = some (.int .i64 X0) ∧ w'.cell? ⟨bs, 2, none⟩ = some (.int .i64 Y0) ∧ w'.cell? ⟨bs, 3, none⟩ = some (.int .i64 X1) ∧ w'.cell? ⟨bs, 4, none⟩ = some (.int .i64 Y1) ∧ w'.cell? ⟨bs, 5, none⟩ = some (.slice As n' cs) := by
  obtain ⟨a0, a1, a2, a3, a4, a5, a6, a7, a8, a9, a10, a11, a12, a13, a14, a15⟩ := h
  have k := fun {b i : Nat} {v : Value} (hc : w.cell? ⟨b, i, none⟩ = some v) => (gb_cell0 hg (p := ⟨b, i, none⟩) (World.block_lt_of_cell? w _ hc)).trans hc
  exact ⟨k a0, k a1, k a2, k a3, k a4, k a5, k a6, k a7, k a8, k a9, k a10, k a11, k a12, k a13, k a14, k a15⟩

set_option maxRecDepth 100000 in
set_option maxHeartbeats 8000000 in
theorem idraw_of {w : World} {kd ks n n' cd cs : Nat} {Xd0 Yd0 Xd1 Yd1 dx0 dy0 dx1 dy1 X0 Y0 X1 Y1 sx0 sy0 sx1 sy1 r0 r1 r2 r3 px py op : Int} {p s q : Nat → Int} {Ad As : Option Addr} (hkd : kd = 0 ∨ kd = 2 ∨ kd = 4)
    (hd : Rd w Ad n p) (hs : Rd w As n' s) (Dd : Dat kd Xd0 Yd0 Xd1 Yd1 dx0 dy0 dx1 dy1 n p) (Ds : Dat ks X0 Y0 X1 Y1 sx0 sy0 sx1 sy1 n' s)
    (H : ∀ (w' : World) (B B' c c' b b' : Nat) (A A' : Option Addr) (td ts : TypeId), IM w' B dx0 dy0 dx1 dy1 n p A c b kd td → IM w' B' sx0 sy0 sx1 sy1 n' s A' c' b' ks ts → Apart A b' A' →
      Calls Tryz.prog 42 #[.iface td (.pointer (some ⟨b, 0, none⟩)), vR r0 r1 r2 r3, .iface ts (.pointer (some ⟨b', 0, none⟩)), vP px py, .nilIface, vP 0 0, .int .i64 op] w' (DMout w' B n c A q)) :
    Calls Tryz.prog 25 #[vI kd Xd0 Yd0 Xd1 Yd1 Ad n cd, vR r0 r1 r2 r3, vI ks X0 Y0 X1 Y1 As n' cs, .int .i64 px, .int .i64 py, .int .i64 op] w (Out w n q) := by
  have HH := hid H
  have Hd := hid hd
  have Hs := hid hs
  have HDd := hid Dd
  have HDs := hid Ds
  have Hk := hid hkd
  clear H hd hs Dd Ds hkd
  go_enter Tryz.func25, Tryz.ntmps25
  go_wp2_with fail
  have HX := hid (gb_alloc (gb_alloc (gb_alloc (gb_refl w none) (.cells #[.int .i64 kd, .int .i64 Xd0, .int .i64 Yd0, .int .i64 Xd1, .int .i64 Yd1, .slice Ad n cd] 24)) (.cells #[.int .i64 r0, .int .i64 r1, .int .i64 r2, .int .i64 r3] 25)) (.cells #[.int .i64 ks, .int .i64 X0, .int .i64 Y0, .int .i64 X1, .int .i64 Y1, .slice As n' cs] 24))
  go_region_held3 (fun W => W.cell? ⟨w.heap.size, 0, none⟩ = some (.int .i64 kd) ∧ W.cell? ⟨w.heap.size, 1, none⟩ = some (.int .i64 Xd0) ∧ W.cell? ⟨w.heap.size, 2, none⟩ = some (.int .i64 Yd0) ∧ W.cell? ⟨w.heap.size, 3, none⟩ = some (.int .i64 Xd1) ∧ W.cell? ⟨w.heap.size, 4, none⟩ = some (.int .i64 Yd1) ∧ W.cell? ⟨w.heap.size, 5, none⟩ = some (.slice Ad n cd) ∧ W.cell? ⟨w.heap.size + 1, 0, none⟩ = some (.int .i64 r0) ∧ W.cell? ⟨w.heap.size + 1, 1, none⟩ = some (.int .i64 r1) ∧ W.cell? ⟨w.heap.size + 1, 2, none⟩ = some (.int .i64 r2) ∧ W.cell? ⟨w.heap.size + 1, 3, none⟩ = some (.int .i64 r3) ∧ W.cell? ⟨w.heap.size + 2, 0, none⟩ = some (.int .i64 ks) ∧ W.cell? ⟨w.heap.size + 2, 1, none⟩ = some (.int .i64 X0) ∧ W.cell? ⟨w.heap.size + 2, 2, none⟩ = some (.int .i64 Y0) ∧ W.cell? ⟨w.heap.size + 2, 3, none⟩ = some (.int .i64 X1) ∧ W.cell? ⟨w.heap.size + 2, 4, none⟩ = some (.int .i64 Y1) ∧ W.cell? ⟨w.heap.size + 2, 5, none⟩ = some (.slice As n' cs)) (first | go_simp | assumption)
    (first
    | (go_at_call_of 36 (Value.slice Ad n cd); refine (image_c _ (Hd.out.kept0 (gb_drew HX.out)) HDd.out.2.2.1).mono ?_; rintro e w2 ⟨A, c, rfl, ho2, hg2⟩
       have HS2 := box3_kept (by assumption) hg2
       have HG2 := hid (gb_trans (gb_drew HX.out) hg2)
       have HO2 := hid ho2
       clear hg2 ho2)
    | (go_at_call_of 36 (Value.slice As n' cs); refine (image_c _ (Hs.out.kept0 HG2.out) HDs.out.2.2.1).mono ?_; rintro e w3 ⟨A', c', rfl, ho3, hg3⟩
       have HS3 := box3_kept (by assumption) hg3
       have HG3 := hid (gb_trans HG2.out hg3)
       have HO3 := hid ho3
       have HO2' := hid (HO2.out.kept0 hg3)
       clear hg3 ho3)
    | (go_at_call 38; refine (zzdraw_of Hk.out HO2'.out.rd HO3.out.rd HDd.out HDs.out HH.out).mono ?_; rintro e w4 ⟨A4, c4, rfl, ho4, hg4⟩
       have HS4 := box3_kept (by assumption) hg4
       have hz4 := HG3.out.size
       have HF := hid (And.intro (ho4.low (B' := w.heap.size) hz4) (gb_trans HG3.out hg4))
       clear hg4 ho4 hz4))
  all_goals (
    go_wp2_with fail
    go_ret
    exact ⟨_, _, rfl, HF.out.1, HF.out.2⟩)
end Go.Proofs.YtgjpohmjkhgpfaaGreat
