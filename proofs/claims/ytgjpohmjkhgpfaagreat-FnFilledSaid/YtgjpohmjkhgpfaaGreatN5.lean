/- Draw, ZZDraw and impl.Draw, over what DrawMask does. -/
import Derived.Test.YtgjpohmjkhgpfaaGreatN4
import Derived.Deep.RegionHeld3
set_option linter.unusedSimpArgs false
set_option linter.unusedVariables false
namespace Go.Proofs.YtgjpohmjkhgpfaaGreat
open Go.RowKit

/-- what is new may be written -/
theorem gb_new {a w w' : World} {row : Option Nat} (h : a.grownBy w none) (k : w.grownBy w' row) (hr : ∀ g, row = some g → a.heap.size ≤ g) : a.grownBy w' none :=
  ⟨k.os.trans h.os, k.tape.trans h.tape, k.output.trans h.output, Nat.le_trans h.size k.size, fun i hi _ =>
    (k.block i (Nat.lt_of_lt_of_le hi h.size) (fun e => by have := hr i e.symm; omega)).trans (h.block i hi (by simp))⟩
theorem DMout.pre {w w0 w' : World} {B n c : Nat} {A : Option Addr} {q : Nat → Int} {e : Ending} (hg : w0.grownBy w none) (h : DMout w B n c A q e w') : DMout w0 B n c A q e w' :=
  ⟨h.1, gb_trans (gb_weak hg _) h.2.1, h.2.2⟩

set_option maxRecDepth 100000 in
set_option maxHeartbeats 4000000 in
theorem draw_of {w : World} {td ts : TypeId} {vd vs : Value} {x0 y0 x1 y1 px py op : Int} {B n c : Nat} {A : Option Addr} {q : Nat → Int}
    (H : ∀ w', w.grownBy w' none → Calls Tryz.prog 42 #[.iface td vd, vR x0 y0 x1 y1, .iface ts vs, vP px py, .nilIface, vP 0 0, .int .i64 op] w' (DMout w' B n c A q)) :
    Calls Tryz.prog 45 #[.iface td vd, vR x0 y0 x1 y1, .iface ts vs, vP px py, .int .i64 op] w (DMout w B n c A q) := by
  have HH := hid H
  clear H
  go_enter Tryz.func45, Tryz.ntmps45
  go_wp2_with fail
  refine (HH.out _ (gb_alloc (gb_alloc (gb_refl _ _) _) _)).mono ?_
  rintro e w2 h2
  have h3 := h2.pre (w0 := w) (gb_alloc (gb_alloc (gb_refl _ _) _) _)
  obtain ⟨rfl, h4⟩ := h3
  have H4 := hid h4
  clear h2 h4
  go_wp2
  exact bodyPost_end (v := .tuple #[]) (by simp [results, Tryz.results45]) rfl ⟨rfl, H4.out⟩

theorem box_kept {w w' : World} {br bs n' cs : Nat} {r0 r1 r2 r3 ks X0 Y0 X1 Y1 : Int} {As : Option Addr} (h : w.cell? ⟨br, 0, none⟩ = some (.int .i64 r0) ∧ w.cell? ⟨br, 1, none⟩ = some (.int .i64 r1) ∧ w.cell? ⟨br, 2, none⟩ = some (.int .i64 r2) ∧ w.cell? ⟨br, 3, none⟩ = some (.int .i64 r3) ∧ w.cell? ⟨bs, 0, none⟩ = some (.int .i64 ks) ∧ w.cell? ⟨bs, 1, none⟩ = some (.int .i64 X0) ∧ w.cell? ⟨bs, 2, none⟩ = some (.int .i64 Y0) ∧ w.cell? ⟨bs, 3, none⟩ = some (.int .i64 X1) ∧ w.cell? ⟨bs, 4, none⟩ = some (.int .i64 Y1) ∧ w.cell? ⟨bs, 5, none⟩ = some (.slice As n' cs)) (hg : w.grownBy w' none) : w'.cell? ⟨br, 0, none⟩ = some (.int .i64 r0) ∧ w'.cell? ⟨br, 1, none⟩ = some (.int .i64 r1) ∧ w'.cell? ⟨br, 2, none⟩ = some (.int .i64 r2) ∧ w'.cell? ⟨br, 3, none⟩ = some (.int .i64 r3) ∧ w'.cell? ⟨bs, 0, none⟩ = some (.int .i64 ks) ∧ w'.cell? ⟨bs, 1, none⟩ = some (.int .i64 X0) ∧ w'.cell? ⟨bs, 2, none⟩ = some (.int .i64 Y0) ∧ w'.cell? ⟨bs, 3, none⟩ = some (.int .i64 X1) ∧ w'.cell? ⟨bs, 4, none⟩ = some (.int .i64 Y1) ∧ w'.cell? ⟨bs, 5, none⟩ = some (.slice As n' cs) := by
  obtain ⟨a0, a1, a2, a3, a4, a5, a6, a7, a8, a9⟩ := h
  have k := fun {b i : Nat} {v : Value} (hc : w.cell? ⟨b, i, none⟩ = some v) => (gb_cell0 hg (p := ⟨b, i, none⟩) (World.block_lt_of_cell? w _ hc)).trans hc
  exact ⟨k a0, k a1, k a2, k a3, k a4, k a5, k a6, k a7, k a8, k a9⟩
/-- an image's data, as they come in -/
def Dat (k : Nat) (X0 Y0 X1 Y1 x0 y0 x1 y1 : Int) (n : Nat) (p : Nat → Int) : Prop :=
  By p ∧ k ≤ 6 ∧ n ≤ 2147483648 ∧ (k = 6 → n = 8) ∧ sm X0 ∧ sm X1 ∧ bdk k (-1000000000) X0 = x0 ∧ bdk k (-1000000000) Y0 = y0 ∧ bdk k 1000000000 X1 = x1 ∧ bdk k 1000000000 Y1 = y1
theorem make_d {k n c : Nat} {X0 Y0 X1 Y1 x0 y0 x1 y1 : Int} {A : Option Addr} {p : Nat → Int} (w : World) (h : Rd w A n p) (D : Dat k X0 Y0 X1 Y1 x0 y0 x1 y1 n p) :
    Calls Tryz.prog 41 #[vI k X0 Y0 X1 Y1 A n c] w (MadeI w k x0 y0 x1 y1 n p) := by
  obtain ⟨h1, h2, h3, h4, h5, h6, h7, h8, h9, h10⟩ := D
  exact make_c w h h1 h2 h3 h4 h5 h6 h7 h8 h9 h10
/-- the bytes that are given back -/
def Out (w : World) (n : Nat) (q : Nat → Int) (e : Ending) (w' : World) : Prop := ∃ A c, e = .returned (.slice A n c) ∧ Own w' w.heap.size n q A c ∧ w.grownBy w' none
theorem IM.tdst {w : World} {B n c b k : Nat} {x0 y0 x1 y1 : Int} {p : Nat → Int} {A : Option Addr} {t : TypeId} (H : IM w B x0 y0 x1 y1 n p A c b k t) (hk : k = 0 ∨ k = 2 ∨ k = 4) : t = 85 ∨ t = 90 ∨ t = 94 := by
  rcases hk with rfl | rfl | rfl <;> cases H
  · exact .inl rfl
  · exact .inr (.inl rfl)
  · exact .inr (.inr rfl)
theorem IM.ne {w : World} {B n c b k : Nat} {x0 y0 x1 y1 : Int} {p : Nat → Int} {A : Option Addr} {t : TypeId} (H : IM w B x0 y0 x1 y1 n p A c b k t) (hk : k ≠ 6) : ∀ a, A = some a → a.block ≠ b := by
  cases H
  case k6 => exact absurd rfl hk
  all_goals (rename_i H; exact H.2.2.2)
/-- the image's last part: its slice is given back -/
theorem pixels_c {w : World} {b n c : Nat} {A : Option Addr} {t : TypeId} (ht : t = 85 ∨ t = 90 ∨ t = 94) (h : w.cell? ⟨b, 0, none⟩ = some (.slice A n c)) :
    Calls Tryz.prog 44 #[.iface t (.pointer (some ⟨b, 0, none⟩))] w fun e w' => e = .returned (.slice A n c) ∧ w = w' := by
  rcases ht with rfl | rfl | rfl
  · exact pixels_RGBA w h
  · exact pixels_Alpha w h
  · exact pixels_RGBA64 w h
theorem ta_draw {t : TypeId} {a : Addr} (ht : t = 85 ∨ t = 90 ∨ t = 94) (w : World) :
    (Instr.typeAssert (.iface t (.pointer (some a))) 72 70 false).run Tryz.prog w = .ok (.iface t (.pointer (some a))) w := by
  rcases ht with rfl | rfl | rfl <;> go_simp

set_option maxRecDepth 100000 in
set_option maxHeartbeats 8000000 in
theorem zzdraw_of {w : World} {kd ks n n' cd cs : Nat} {Xd0 Yd0 Xd1 Yd1 dx0 dy0 dx1 dy1 X0 Y0 X1 Y1 sx0 sy0 sx1 sy1 r0 r1 r2 r3 px py op : Int} {p s q : Nat → Int} {Ad As : Option Addr} (hkd : kd = 0 ∨ kd = 2 ∨ kd = 4)
    (hd : Rd w Ad n p) (hs : Rd w As n' s) (Dd : Dat kd Xd0 Yd0 Xd1 Yd1 dx0 dy0 dx1 dy1 n p) (Ds : Dat ks X0 Y0 X1 Y1 sx0 sy0 sx1 sy1 n' s)
    (H : ∀ (w' : World) (B B' c c' b b' : Nat) (A A' : Option Addr) (td ts : TypeId), IM w' B dx0 dy0 dx1 dy1 n p A c b kd td → IM w' B' sx0 sy0 sx1 sy1 n' s A' c' b' ks ts → Apart A b' A' →
      Calls Tryz.prog 42 #[.iface td (.pointer (some ⟨b, 0, none⟩)), vR r0 r1 r2 r3, .iface ts (.pointer (some ⟨b', 0, none⟩)), vP px py, .nilIface, vP 0 0, .int .i64 op] w' (DMout w' B n c A q)) :
    Calls Tryz.prog 38 #[vI kd Xd0 Yd0 Xd1 Yd1 Ad n cd, vR r0 r1 r2 r3, vI ks X0 Y0 X1 Y1 As n' cs, .int .i64 px, .int .i64 py, .int .i64 op] w (Out w n q) := by
  have hk6 : kd ≠ 6 := by omega
  have HH := hid H
  have Hd := hid hd
  have Hs := hid hs
  have HDd := hid Dd
  have HDs := hid Ds
  have Hk := hid hkd
  clear H hd hs Dd Ds hkd
  go_enter Tryz.func38, Tryz.ntmps38
  go_wp2_with fail
  refine (make_d _ (Hd.out.kept0 (gb_alloc (gb_alloc (gb_alloc (gb_refl _ _) _) _) _)) HDd.out).mono ?_
  rintro e w1 ⟨td, b, A, c, rfl, hI, hg⟩
  have HT := hid (hI.tdst Hk.out)
  have TA := fun (w' : World) => ta_draw (a := ⟨b, 0, none⟩) HT.out w'
  have HI := hid hI
  have Hg := hid hg
  obtain ⟨cc, ff⟩ := gb_rules hg
  have hz := hg.size
  simp at hz
  have hb : b < w1.heap.size := hI.ge.2
  have hbB := hI.ge.1
  simp at hbB
  have hb0 := box_kept (br := w.heap.size + 1) (bs := w.heap.size + 2) (ks := ks) (X0 := X0) (Y0 := Y0) (X1 := X1) (Y1 := Y1) (As := As) (n' := n') (cs := cs) (r0 := r0) (r1 := r1) (r2 := r2) (r3 := r3) ⟨by go_simp, by go_simp, by go_simp, by go_simp, by go_simp, by go_simp, by go_simp, by go_simp, by go_simp, by go_simp⟩ (gb_refl (((w.alloc (.cells #[.int .i64 kd, .int .i64 Xd0, .int .i64 Yd0, .int .i64 Xd1, .int .i64 Yd1, .slice Ad n cd] 64)).alloc (.cells #[.int .i64 r0, .int .i64 r1, .int .i64 r2, .int .i64 r3] 25)).alloc (.cells #[.int .i64 ks, .int .i64 X0, .int .i64 Y0, .int .i64 X1, .int .i64 Y1, .slice As n' cs] 64)) none)
  have HB0 := hid hb0
  have HBX := hid (box_kept hb0 hg)
  clear hb0
  have HG1 := hid (gb_trans (gb_alloc (gb_alloc (gb_alloc (gb_refl w none) _) _) _) hg)
  clear hI hg cc ff
  go_wp2_with fail
  have x1 : w.heap.size + 1 < w1.heap.size := by omega
  have x2 : w.heap.size + 2 < w1.heap.size := by omega
  obtain ⟨a0, a1, a2, a3, a4, a5, a6, a7, a8, a9⟩ := HBX.out
  go_region_held3 (fun W => W.cell? ⟨w.heap.size + 1, 0, none⟩ = some (.int .i64 r0) ∧ W.cell? ⟨w.heap.size + 1, 1, none⟩ = some (.int .i64 r1) ∧ W.cell? ⟨w.heap.size + 1, 2, none⟩ = some (.int .i64 r2) ∧ W.cell? ⟨w.heap.size + 1, 3, none⟩ = some (.int .i64 r3) ∧ W.cell? ⟨w.heap.size + 2, 0, none⟩ = some (.int .i64 ks) ∧ W.cell? ⟨w.heap.size + 2, 1, none⟩ = some (.int .i64 X0) ∧ W.cell? ⟨w.heap.size + 2, 2, none⟩ = some (.int .i64 Y0) ∧ W.cell? ⟨w.heap.size + 2, 3, none⟩ = some (.int .i64 X1) ∧ W.cell? ⟨w.heap.size + 2, 4, none⟩ = some (.int .i64 Y1) ∧ W.cell? ⟨w.heap.size + 2, 5, none⟩ = some (.slice As n' cs)) (first | go_simp | assumption)
    (first
    | (go_at_call 43; refine (zrect_c r0 r1 r2 r3 _).mono ?_; rintro e w2 ⟨rfl, hg2⟩
       have HS2 := box_kept (by assumption) hg2
       have HG2 := hid (gb_trans (gb_drew HG1.out) hg2)
       have HR2 := hid hg2
       have HI2 := hid (HI.out.kept0 (gb_trans (gb_drew (gb_refl _ _)) hg2))
       clear hg2)
    | (go_at_call 41; refine (make_d _ (Hs.out.kept0 HG2.out) HDs.out).mono ?_; rintro e w3 ⟨ts, b', A', c', rfl, hI3, hg3⟩
       have HS3 := box_kept (by assumption) hg3
       have HG3 := hid (gb_trans HG2.out hg3)
       have HR3 := hid hg3
       have HI3 := hid (HI2.out.kept0 hg3)
       have HJ3 := hid hI3
       have hz2 := HG2.out.size
       have HAP : Hid (Apart A b' A') := hid (fun a ha => by
         have q1 := (HI2.out.alt a ha).1
         have q2 := hI3.ge.1
         exact ⟨by omega, fun a' ha' => by have q3 := (hI3.alt a' ha').2; omega⟩)
       clear hg3 hI3)
    | (go_at_call 45; refine (draw_of (A := A) (B := w.heap.size) (n := n) (c := c) (q := q) (fun w' hg' => HH.out w' _ _ _ _ _ _ _ _ _ _ ((HI3.out.kept0 hg').low (by simp <;> omega)) (HJ3.out.kept0 hg') HAP.out)).mono ?_; rintro e w4 ⟨rfl, h4, h5⟩
       have hGW := gb_trans (gb_drew Hg.out) (gb_trans HR2.out HR3.out)
       have hIW := HI3.out
       have hal := HI.out.alt
       have HG4 := gb_new hGW h4 (fun g hg => by
         cases hA : A with
         | none => rw [hA] at hg; cases hg
         | some a => rw [hA] at hg; injection hg with hg; subst hg; exact (hal a hA).2)
       have HS4 := box_kept HB0.out HG4
       have HC4 := (World.cell?_of_block (h4.block b hIW.ge.2 (fun e => by
         cases hA : A with
         | none => rw [hA] at e; cases e
         | some a => rw [hA] at e; injection e with e; exact hIW.ne hk6 a hA e.symm))).trans (hIW.cell0 hk6)
       have HF := hid (And.intro h5 (gb_trans (gb_alloc (gb_alloc (gb_alloc (gb_refl w none) _) _) _) HG4))
       clear h4 h5 hGW hIW hal))
  all_goals (
    go_wp2_with fail
    refine (pixels_c HT.out HC4).mono ?_
    rintro e w5 ⟨rfl, rfl⟩
    go_wp2_with fail
    go_ret
    exact ⟨_, _, rfl, HF.out.1, HF.out.2⟩)
end Go.Proofs.YtgjpohmjkhgpfaaGreat
