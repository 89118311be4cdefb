/- impl.DrawSame, over what DrawMask does to an image that is its own source. -/
import Derived.Test.YtgjpohmjkhgpfaaGreatD14
set_option linter.unusedSimpArgs false
set_option linter.unusedVariables false
namespace Go.Proofs.YtgjpohmjkhgpfaaGreat
open Go.RowKit

set_option maxRecDepth 100000 in
set_option maxHeartbeats 8000000 in
theorem zzsame_of {w : World} {kd n cd : Nat} {Xd0 Yd0 Xd1 Yd1 dx0 dy0 dx1 dy1 r0 r1 r2 r3 px py op : Int} {p q : Nat → Int} {Ad : Option Addr} (hkd : kd = 0 ∨ kd = 2 ∨ kd = 4)
    (hd : Rd w Ad n p) (Dd : Dat kd Xd0 Yd0 Xd1 Yd1 dx0 dy0 dx1 dy1 n p)
    (H : ∀ (w' : World) (B c b : Nat) (A : Option Addr) (td : TypeId), IM w' B dx0 dy0 dx1 dy1 n p A c b kd td →
      Calls Tryz.prog 42 #[.iface td (.pointer (some ⟨b, 0, none⟩)), vR r0 r1 r2 r3, .iface td (.pointer (some ⟨b, 0, none⟩)), vP px py, .nilIface, vP 0 0, .int .i64 op] w' (DMout w' B n c A q)) :
    Calls Tryz.prog 39 #[vI kd Xd0 Yd0 Xd1 Yd1 Ad n cd, vR r0 r1 r2 r3, .int .i64 px, .int .i64 py, .int .i64 op] w (Out w n q) := by
  have hk6 : kd ≠ 6 := by omega
  have HH := hid H
  have Hd := hid hd
  have HDd := hid Dd
  have Hk := hid hkd
  clear H hd Dd hkd
  go_enter Tryz.func39, Tryz.ntmps39
  go_wp2_with fail
  refine (make_d _ (Hd.out.kept0 (gb_alloc (gb_alloc (gb_refl _ _) _) _)) HDd.out).mono ?_
  rintro e w1 ⟨td, b, A, c, rfl, hI, hg⟩
  have HT := hid (hI.tdst Hk.out)
  have TA := fun (w' : World) => ta_draw (a := ⟨b, 0, none⟩) HT.out w'
  have HI := hid hI
  have Hg := hid hg
  have hbB := hI.ge.1
  simp at hbB
  have a0 : w1.cell? ⟨w.heap.size + 1, 0, none⟩ = some (.int .i64 r0) := (gb_cell0 hg (p := ⟨w.heap.size + 1, 0, none⟩) (by simp)).trans (by go_simp)
  have a1 : w1.cell? ⟨w.heap.size + 1, 1, none⟩ = some (.int .i64 r1) := (gb_cell0 hg (p := ⟨w.heap.size + 1, 1, none⟩) (by simp)).trans (by go_simp)
  have a2 : w1.cell? ⟨w.heap.size + 1, 2, none⟩ = some (.int .i64 r2) := (gb_cell0 hg (p := ⟨w.heap.size + 1, 2, none⟩) (by simp)).trans (by go_simp)
  have a3 : w1.cell? ⟨w.heap.size + 1, 3, none⟩ = some (.int .i64 r3) := (gb_cell0 hg (p := ⟨w.heap.size + 1, 3, none⟩) (by simp)).trans (by go_simp)
  have HG1 := hid (gb_trans (gb_alloc (gb_alloc (gb_refl w none) _) _) hg)
  clear hI hg
  go_wp2_with fail
  refine (zrect_c r0 r1 r2 r3 _).mono ?_
  rintro e w2 ⟨rfl, hg2⟩
  have HI2 := hid (HI.out.kept0 hg2)
  have HR2 := hid hg2
  clear hg2
  go_wp2_with fail
  have hz1 := Hg.out.size
  simp at hz1
  refine (draw_of (A := A) (B := w.heap.size) (n := n) (c := c) (q := q) (fun w' hg' => HH.out w' _ _ _ _ _ ((HI2.out.kept0 hg').low (by simp <;> omega)))).mono ?_
  rintro e w4 ⟨rfl, h4, h5⟩
  have hal := HI.out.alt
  have HG4 := gb_new (gb_trans Hg.out HR2.out) h4 (fun g hg => by
    cases hA : A with
    | none => rw [hA] at hg; cases hg
    | some a => rw [hA] at hg; injection hg with hg; subst hg; exact (hal a hA).2)
  have HC4 := (World.cell?_of_block (h4.block b HI2.out.ge.2 (fun e => by
    cases hA : A with
    | none => rw [hA] at e; cases e
    | some a => rw [hA] at e; injection e with e; exact HI2.out.ne hk6 a hA e.symm))).trans (HI2.out.cell0 hk6)
  have HF := hid (And.intro h5 (gb_trans (gb_alloc (gb_alloc (gb_refl w none) _) _) HG4))
  clear h4 h5 hal
  go_wp2_with fail
  refine (pixels_c HT.out HC4).mono ?_
  rintro e w5 ⟨rfl, rfl⟩
  go_wp2_with fail
  go_ret
  exact ⟨_, _, rfl, HF.out.1, HF.out.2⟩

set_option maxRecDepth 100000 in
set_option maxHeartbeats 8000000 in
theorem isame_of {w : World} {kd n cd : Nat} {Xd0 Yd0 Xd1 Yd1 dx0 dy0 dx1 dy1 r0 r1 r2 r3 px py op : Int} {p q : Nat → Int} {Ad : Option Addr} (hkd : kd = 0 ∨ kd = 2 ∨ kd = 4)
    (hd : Rd w Ad n p) (Dd : Dat kd Xd0 Yd0 Xd1 Yd1 dx0 dy0 dx1 dy1 n p)
    (H : ∀ (w' : World) (B c b : Nat) (A : Option Addr) (td : TypeId), IM w' B dx0 dy0 dx1 dy1 n p A c b kd td →
      Calls Tryz.prog 42 #[.iface td (.pointer (some ⟨b, 0, none⟩)), vR r0 r1 r2 r3, .iface td (.pointer (some ⟨b, 0, none⟩)), vP px py, .nilIface, vP 0 0, .int .i64 op] w' (DMout w' B n c A q)) :
    Calls Tryz.prog 29 #[vI kd Xd0 Yd0 Xd1 Yd1 Ad n cd, vR r0 r1 r2 r3, .int .i64 px, .int .i64 py, .int .i64 op] w (Out w n q) := by
  have HH := hid H
  have Hd := hid hd
  have HDd := hid Dd
  have Hk := hid hkd
  clear H hd Dd hkd
  go_enter Tryz.func29, Tryz.ntmps29
  go_wp2_with fail
  have HX := hid (gb_alloc (gb_alloc (gb_refl w none) (.cells #[.int .i64 kd, .int .i64 Xd0, .int .i64 Yd0, .int .i64 Xd1, .int .i64 Yd1, .slice Ad n cd] 24)) (.cells #[.int .i64 r0, .int .i64 r1, .int .i64 r2, .int .i64 r3] 25))
  go_region_held3 (fun W => W.cell? ⟨w.heap.size + 1, 0, none⟩ = some (.int .i64 r0) ∧ W.cell? ⟨w.heap.size + 1, 1, none⟩ = some (.int .i64 r1) ∧ W.cell? ⟨w.heap.size + 1, 2, none⟩ = some (.int .i64 r2) ∧ W.cell? ⟨w.heap.size + 1, 3, none⟩ = some (.int .i64 r3) ∧ W.cell? ⟨w.heap.size, 0, none⟩ = some (.int .i64 kd) ∧ W.cell? ⟨w.heap.size, 1, none⟩ = some (.int .i64 Xd0) ∧ W.cell? ⟨w.heap.size, 2, none⟩ = some (.int .i64 Yd0) ∧ W.cell? ⟨w.heap.size, 3, none⟩ = some (.int .i64 Xd1) ∧ W.cell? ⟨w.heap.size, 4, none⟩ = some (.int .i64 Yd1) ∧ W.cell? ⟨w.heap.size, 5, none⟩ = some (.slice Ad n cd)) (first | go_simp | assumption)
    (first
    | (go_at_call 36; refine (image_c _ (Hd.out.kept0 (gb_drew HX.out)) HDd.out.2.2.1).mono ?_; rintro e w2 ⟨A, c, rfl, ho2, hg2⟩
       have HS2 := box_kept (by assumption) hg2
       have HG2 := hid (gb_trans (gb_drew HX.out) hg2)
       have HO2 := hid ho2
       clear hg2 ho2)
    | (go_at_call 39; refine (zzsame_of Hk.out HO2.out.rd HDd.out HH.out).mono ?_; rintro e w4 ⟨A4, c4, rfl, ho4, hg4⟩
       have HS4 := box_kept (by assumption) hg4
       have hz4 := HG2.out.size
       have HF := hid (And.intro (ho4.low (B' := w.heap.size) hz4) (gb_trans HG2.out hg4))
       clear hg4 ho4 hz4))
  all_goals (
    go_wp2_with fail
    go_ret
    exact ⟨_, _, rfl, HF.out.1, HF.out.2⟩)
end Go.Proofs.YtgjpohmjkhgpfaaGreat
