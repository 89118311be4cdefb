/- Parts of the proof: what the functions of the package and of the reference do (X4, N4, N5, N6, P1, P2, RV, P3, W8a, W8b). No condition but those that each theorem names. -/
import Derived.Test.YtgjpohmjkhgpfaaGreatD01
import Derived.Test.YtgjpohmjkhgpfaaGreatD02
import Derived.Test.YtgjpohmjkhgpfaaGreatD03
import Derived.Test.YtgjpohmjkhgpfaaGreatD04
import Derived.Test.YtgjpohmjkhgpfaaGreatD06
import Derived.Test.YtgjpohmjkhgpfaaGreatD09
import Derived.Test.YtgjpohmjkhgpfaaGreatD13
import Derived.Deep.RegionHeld3
import Derived.Deep.RegionWith
import Derived.Laws.BytesArg
set_option linter.unusedSimpArgs false
set_option linter.unusedVariables false
namespace Go.Proofs.YtgjpohmjkhgpfaaGreat
open Go.RowKit

theorem sc_kept {w w' : World} {bd bs pd ps br bp nd cd ns cs st ss : Nat} {b0 b1 b2 b3 p0 p1 : Int} (h : w.cell? ⟨bd, 0, none⟩ = some (.slice (some ⟨pd, 0, none⟩) nd cd) ∧ w.cell? ⟨bd, 1, none⟩ = some (.int .i64 (st : Int)) ∧ w.cell? ⟨bs, 0, none⟩ = some (.slice (some ⟨ps, 0, none⟩) ns cs) ∧ w.cell? ⟨bs, 1, none⟩ = some (.int .i64 (ss : Int)) ∧ w.cell? ⟨br, 0, none⟩ = some (.int .i64 b0) ∧ w.cell? ⟨br, 1, none⟩ = some (.int .i64 b1) ∧ w.cell? ⟨br, 2, none⟩ = some (.int .i64 b2) ∧ w.cell? ⟨br, 3, none⟩ = some (.int .i64 b3) ∧ w.cell? ⟨bp, 0, none⟩ = some (.int .i64 p0) ∧ w.cell? ⟨bp, 1, none⟩ = some (.int .i64 p1))
    (hg : w.grownBy w' (some pd)) (h1 : bd ≠ pd) (h2 : bs ≠ pd) (h3 : br ≠ pd) (h4 : bp ≠ pd) : w'.cell? ⟨bd, 0, none⟩ = some (.slice (some ⟨pd, 0, none⟩) nd cd) ∧ w'.cell? ⟨bd, 1, none⟩ = some (.int .i64 (st : Int)) ∧ w'.cell? ⟨bs, 0, none⟩ = some (.slice (some ⟨ps, 0, none⟩) ns cs) ∧ w'.cell? ⟨bs, 1, none⟩ = some (.int .i64 (ss : Int)) ∧ w'.cell? ⟨br, 0, none⟩ = some (.int .i64 b0) ∧ w'.cell? ⟨br, 1, none⟩ = some (.int .i64 b1) ∧ w'.cell? ⟨br, 2, none⟩ = some (.int .i64 b2) ∧ w'.cell? ⟨br, 3, none⟩ = some (.int .i64 b3) ∧ w'.cell? ⟨bp, 0, none⟩ = some (.int .i64 p0) ∧ w'.cell? ⟨bp, 1, none⟩ = some (.int .i64 p1) := by
  obtain ⟨a0, a1, a2, a3, a4, a5, a6, a7, a8, a9⟩ := h
  have k := fun {b i : Nat} {v : Value} (hb : b ≠ pd) (hc : w.cell? ⟨b, i, none⟩ = some v) => (gb_cell hg (p := ⟨b, i, none⟩) (World.block_lt_of_cell? w _ hc) hb).trans hc
  exact ⟨k h1 a0, k h1 a1, k h2 a2, k h2 a3, k h3 a4, k h3 a5, k h3 a6, k h3 a7, k h4 a8, k h4 a9⟩

set_option maxRecDepth 100000 in
set_option maxHeartbeats 8000000 in
theorem dm_0_0_1 {bd pd dh dw bs ps sh sw rx ry xe ye sx sy : Nat} {dx0 dy0 sx0 sy0 x0 y0 x1 y1 px py qx qy b0 b1 b2 b3 p0 p1 q0 q1 : Int} {D S : Nat → Nat → Nat → Int} (w : World)
    (hD : Pic w bd 87 pd 4 dh dw dx0 dy0 D) (hS : Pic w bs 87 ps 4 sh sw sx0 sy0 S) (hne2 : bs ≠ pd) (HH : ∀ w' : World, w.grownBy w' none → Alias w' pd ps dh dw sh sw 4 D S) (hdir : ps = pd → dx0 = sx0 ∧ dy0 = sy0)
    (hC : Cl0 x0 y0 x1 y1 px py qx qy dx0 dy0 (dx0 + dw) (dy0 + dh) sx0 sy0 (sx0 + sw) (sy0 + sh) b0 b1 b2 b3 p0 p1 q0 q1)
    (hR : Rct b0 b1 b2 b3 dx0 dy0 rx ry xe ye dh dw) (hP : Plc p0 p1 sx0 sy0 sx sy rx ry xe ye sh sw) :
    Calls Tryz.prog 42 #[.iface 85 (.pointer (some ⟨bd, 0, none⟩)), vR x0 y0 x1 y1, .iface 85 (.pointer (some ⟨bs, 0, none⟩)), vP px py, .nilIface, vP qx qy, .int .i64 1] w
      (Drawn w pd 4 dh dw rx ry xe ye (fun r c => S (sy + (r - ry)) (sx + (c - rx))) D) := by
  have HC := hid hC
  have Hem := hid (rct_ne hR)
  have HR := hid hR
  have HP := hid hP
  have HD := hid hD
  have HS := hid hS
  clear hC hR hP hD hS
  go_enter Tryz.func42, Tryz.ntmps42
  go_wp2_with fail
  refine (clip0_k HC.out (w0 := w) (gb_alloc (gb_alloc (gb_alloc (gb_refl _ _) _) _) _) (Nat.le_refl _) (by omega) (by omega) (by omega) (by omega) (by omega) (Src.k0 HD.out).bd (Src.k0 HS.out).bd (cp_start _ _ _ _ _ _ _ _ _)).mono ?_
  rintro e w1 ⟨rfl, hg, ⟨c0, c1, c2, c3, k0, k1, l0, l1, fr, fp, fq⟩⟩
  have z1 : w.heap.size < w1.heap.size := World.block_lt_of_cell? w1 _ c0
  have z2 : w.heap.size + 1 < w1.heap.size := World.block_lt_of_cell? w1 _ k0
  have z3 : w.heap.size + 2 < w1.heap.size := World.block_lt_of_cell? w1 _ l0
  clear fr fp fq
  have Hg := hid hg
  clear hg
  go_wp2_with fail
  refine (empty_c b0 b1 b2 b3 _).mono ?_
  rintro e w2 ⟨rfl, rfl⟩
  rw [Hem.out]
  go_wp2_with fail
  obtain ⟨nd, cd, st, d0, d1, d2, d3, -, -, lb, hpd, hnd, hst, hcd, hmx, hne, l7, l8, v1, v2, v3, v4, hB⟩ := HD.out.cells
  obtain ⟨ns, cs, ss, s0, s1, s2, s3, -, -, lbs, hps, hns, hss, hcs, hmx2, hnes, l9, l10, v5, v6, v7, v8, hBs⟩ := HS.out.cells
  obtain ⟨e1, e2, e3, e4, l1, l2, l3, l4⟩ := HR.out
  obtain ⟨e5, e6, l5, l6⟩ := HP.out
  have HG := hid (gb_alloc Hg.out (.cells #[.int .i64 b0, .int .i64 b1, .int .i64 b2, .int .i64 b3] 78))
  obtain ⟨q0, hq0⟩ : ∃ q0 : Nat, q0 = ry * st + rx * 4 := ⟨_, rfl⟩
  obtain ⟨q1, hq1⟩ : ∃ q1 : Nat, q1 = sy * ss + sx * 4 := ⟨_, rfl⟩
  have f1 : q0 < nd := by
    have hh := pix_bound (h := dh) (wd := dw) (k := 4) (r := ry) (c := rx) (ch := 0) (by omega) (by omega) (by omega)
    rw [hst] at hh; rw [hnd, hq0]; omega
  have f2 : q1 < ns := by
    have hh := pix_bound (h := sh) (wd := sw) (k := 4) (r := sy) (c := sx) (ch := 0) (by omega) (by omega) (by omega)
    rw [hss] at hh; rw [hns, hq1]; omega
  have g1 : st ≤ 1024 := by omega
  have g2 : ss ≤ 1024 := by omega
  have m0 : -4000 ≤ b0 ∧ b0 ≤ 4000 ∧ -4000 ≤ b2 ∧ b2 ≤ 4000 := by omega
  have hlp : pd < w.heap.size := hpd.lt
  have hda := HH
  have Hpd := hid hpd
  have Hal := hid hda
  have Hdir := hid hdir
  have Hk := hid (And.intro hnd (And.intro hst (And.intro hns (And.intro hss (And.intro hq0 hq1)))))
  have HB := hid (And.intro hB hBs)
  clear hnd hst hns hss hq0 hq1 hB hBs hpd hps hda hdir
  refine Calls.mono (off_RGBA bd st ry rx q0 _ _ _ _ _ ((gb_cell0 HG.out lb).trans d1) ((gb_cell0 HG.out lb).trans d2) ((gb_cell0 HG.out lb).trans d3) e1 e2 (by omega) (by omega) g1 Hk.out.2.2.2.2.1) ?_
  rintro e w3 ⟨rfl, hg3⟩
  have HW := hid (gb_trans (gb_alloc (gb_refl w1 none) (.cells #[.int .i64 b0, .int .i64 b1, .int .i64 b2, .int .i64 b3] 78)) hg3)
  have HG3 := hid (gb_trans HG.out hg3)
  clear hg3
  have k0' := (gb_cell0 HW.out z2).trans k0
  have k1' := (gb_cell0 HW.out z2).trans k1
  go_wp2_with fail
  refine Calls.mono (off_RGBA bs ss sy sx q1 _ _ _ _ _ ((gb_cell0 HG3.out lbs).trans s1) ((gb_cell0 HG3.out lbs).trans s2) ((gb_cell0 HG3.out lbs).trans s3) e5 e6 (by omega) (by omega) g2 Hk.out.2.2.2.2.2) ?_
  rintro e w4 ⟨rfl, hg4⟩
  have HW4 := hid (gb_trans HW.out hg4)
  have HG4 := hid (gb_trans HG3.out hg4)
  clear hg4 k0' k1'
  have k0' := (gb_cell0 HW4.out z2).trans k0
  have k1' := (gb_cell0 HW4.out z2).trans k1
  have c0' := (gb_cell0 HW4.out z1).trans c0
  have c1' := (gb_cell0 HW4.out z1).trans c1
  have c2' := (gb_cell0 HW4.out z1).trans c2
  have c3' := (gb_cell0 HW4.out z1).trans c3
  have D0 := (gb_cell0 HG4.out lb).trans d0
  have D1 := (gb_cell0 HG4.out lb).trans d1
  have S0 := (gb_cell0 HG4.out lbs).trans s0
  have S1 := (gb_cell0 HG4.out lbs).trans s1
  have x1 : bd < w4.heap.size := World.block_lt_of_cell? w4 _ D0
  have x2 : bs < w4.heap.size := World.block_lt_of_cell? w4 _ S0
  have x3 : w.heap.size < w4.heap.size := World.block_lt_of_cell? w4 _ c0'
  have x4 : w.heap.size + 1 < w4.heap.size := World.block_lt_of_cell? w4 _ k0'
  have j1 : w.heap.size ≠ pd := by omega
  have j2 : w.heap.size + 1 ≠ pd := by omega
  have y1 : (0 : Int) ≤ (q0 : Int) := by omega
  have y2 : (q0 : Int) ≤ (nd : Int) := by omega
  have y3 : (q0 : Int) ≤ (cd : Int) := by omega
  have y4 : ¬ (cd = q0) := by omega
  have y5 : (0 : Int) ≤ (q1 : Int) := by omega
  have y6 : (q1 : Int) ≤ (ns : Int) := by omega
  have y7 : (q1 : Int) ≤ (cs : Int) := by omega
  have y8 : ¬ (cs = q1) := by omega
  have y9 : IntKind.i64.wrap (4 * (b2 - b0)) = 4 * (b2 - b0) := IntWalk.i64_in _ (by omega)
  have HL := hid (And.intro (And.intro l7 l8) (And.intro l9 l10))
  have HV := hid (And.intro (And.intro v1 v2) (And.intro (And.intro v3 v4) (And.intro (And.intro v5 v6) (And.intro v7 v8))))
  have E := hid (And.intro e1 (And.intro e2 (And.intro e3 (And.intro e4 (And.intro e5 e6)))))
  clear d0 d1 d2 d3 s0 s1 s2 s3 c0 c1 c2 c3 k0 k1 l0 l1 z1 z2 z3 e1 e2 e3 e4 e5 e6 v1 v2 v3 v4 v5 v6 v7 v8 l2 l3 l4 l5 l6 l7 l8 l9 l10
  go_wp2_with fail
  go_region_held3 (fun W => W.cell? ⟨bd, 0, none⟩ = some (.slice (some ⟨pd, 0, none⟩) nd cd) ∧ W.cell? ⟨bd, 1, none⟩ = some (.int .i64 (st : Int)) ∧ W.cell? ⟨bs, 0, none⟩ = some (.slice (some ⟨ps, 0, none⟩) ns cs) ∧ W.cell? ⟨bs, 1, none⟩ = some (.int .i64 (ss : Int)) ∧ W.cell? ⟨w.heap.size, 0, none⟩ = some (.int .i64 b0) ∧ W.cell? ⟨w.heap.size, 1, none⟩ = some (.int .i64 b1) ∧ W.cell? ⟨w.heap.size, 2, none⟩ = some (.int .i64 b2) ∧ W.cell? ⟨w.heap.size, 3, none⟩ = some (.int .i64 b3) ∧ W.cell? ⟨w.heap.size + 1, 0, none⟩ = some (.int .i64 p0) ∧ W.cell? ⟨w.heap.size + 1, 1, none⟩ = some (.int .i64 p1)) (first | go_simp | assumption)
    (first
    | (go_at_call 64; refine (dx_c b0 b1 b2 b3 _ (by unfold sm; omega) (by unfold sm; omega)).mono ?_; rintro e w5 ⟨rfl, rfl⟩)
    | (go_at_call 63
       refine (drawCopySrc_c (D := D) (S := S) (d0 := q0) (s0 := q1) (dh := dh) (dw := dw) (sh := sh) (sw := sw) (rx := rx) (ry := ry) (xe := xe) (ye := ye) (sx := sx) (sy := sy) (dx0 := dx0) (dy0 := dy0) (sx0 := sx0) (sy0 := sy0) _
         (Hpd.out.kept (gb_block0 (by (repeat (first | exact HG4.out | refine gb_drew ?_ | refine gb_alloc ?_ _))) hlp)) (Hal.out _ (by (repeat (first | exact HG4.out | refine gb_drew ?_ | refine gb_alloc ?_ _)))) Hdir.out HR.out HP.out HL.out.1.1 HL.out.1.2 HL.out.2.1 HL.out.2.2 HV.out.1 HV.out.2.1 HV.out.2.2.1 HV.out.2.2.2
         Hk.out.1 Hk.out.2.1 hcd Hk.out.2.2.1 Hk.out.2.2.2.1 hcs Hk.out.2.2.2.2.1 Hk.out.2.2.2.2.2 rfl).mono ?_
       rintro e w5 h5
       have h6 := drawn_of (w := w) (by (repeat (first | exact HG4.out | refine gb_drew ?_ | refine gb_alloc ?_ _))) h5
       have HS5 := sc_kept (by assumption) h5.2.1 hne hne2 j1 j2
       obtain ⟨rfl, h7⟩ := h6
       have H7 := hid h7
       clear h5 h7))
  all_goals (
    go_wp2_with fail
    exact bodyPost_ret (v := .tuple #[]) (by simp [results, Tryz.results42]) rfl ⟨rfl, H7.out⟩)
end Go.Proofs.YtgjpohmjkhgpfaaGreat

namespace Go.Proofs.YtgjpohmjkhgpfaaGreat
open Go.RowKit

theorem px_copy {d s : Nat → Int} (hs : By s) : px0 0 0 1 d s = s := by
  funext ch
  have := hs ch
  show s ch * 257 / 256 = s ch
  omega
theorem pm_toP {k wd : Nat} {p : Nat → Int} (h : ∀ j, Pm k (fun ch => p (j * sz k + ch))) (r c : Nat) : Pm k (toP wd (sz k) p r c) := by
  have := h (r * wd + c)
  unfold toP
  have e : ∀ ch, r * (wd * sz k) + c * sz k + ch = (r * wd + c) * sz k + ch := fun ch => by rw [Nat.add_mul, Nat.mul_assoc]
  simp only [e]
  exact this
/-- two images that were made one after the other -/
def Apart (A : Option Addr) (b' : Nat) (A' : Option Addr) : Prop := ∀ a, A = some a → a.block ≠ b' ∧ ∀ a', A' = some a' → a'.block ≠ a.block

theorem mdm_0_0 {w : World} {B n c b dh dw B' n' c' b' sh sw op : Nat} {dx0 dy0 dx1 dy1 sx0 sy0 sx1 sy1 x0 y0 x1 y1 px py : Int} {p s : Nat → Int} {A A' : Option Addr} {td ts : TypeId} (hop : op ≤ 1)
    (Hd : IM w B dx0 dy0 dx1 dy1 n p A c b 0 td) (Hs : IM w B' sx0 sy0 sx1 sy1 n' s A' c' b' 0 ts) (GD : Geo 0 dx0 dy0 dx1 dy1 n dh dw) (GS : Geo 0 sx0 sy0 sx1 sy1 n' sh sw) (hp : By p) (hs : By s)
    (hpm : ∀ j, Pm 0 (fun ch => s (j * sz 0 + ch))) (hap : Apart A b' A')
    (m1 : sm x0) (m2 : sm y0) (m3 : sm px) (m4 : sm py) (m5 : sm (x0 - px)) (m6 : sm (y0 - py)) :
    Calls Tryz.prog 42 #[.iface td (.pointer (some ⟨b, 0, none⟩)), vR x0 y0 x1 y1, .iface ts (.pointer (some ⟨b', 0, none⟩)), vP px py, .nilIface, vP 0 0, .int .i64 op] w
      (DMout w B n c A (resB 0 dw (In0 x0 y0 x1 y1 px py dx0 dy0 sx0 sy0 sh sw) (fun r c => px0 0 0 op (toP dw (sz 0) p r c) (srcAt 0 sw s x0 y0 px py dx0 dy0 sx0 sy0 r c)) p)) := by
  refine mdm0_of (by omega) Hd Hs GD GS hp hs m1 m2 m3 m4 m5 m6 ?_
  intro rx ry xe ye ax ay b0 b1 b2 b3 p0 p1 q0 q1 g hA S1 S2 hC hR hP
  have hap' := hap _ hA
  rcases GS with ⟨h6, _⟩ | ⟨-, e1, e2, hn', l1, l2, v1, v2, v3, v4⟩
  · cases h6
  cases S1
  case k0 S1 =>
  cases S2
  case k0 S2 =>
  have hA' : ∃ g', A' = some ⟨g', 0, none⟩ := by
    have hR' := hR
    obtain ⟨-, -, -, -, r1, r2, r3, r4⟩ := hR'
    have hP' := hP
    obtain ⟨-, -, r5, r6⟩ := hP'
    obtain ⟨g', e, _⟩ := Hs.dst (by omega) (by rw [hn']; exact Nat.mul_pos (by omega) (Nat.mul_pos (by omega) (sz_pos 0)))
    exact ⟨g', e⟩
  obtain ⟨g', rfl⟩ := hA'
  have n1 : b' ≠ g := fun e => hap'.1 e.symm
  have n2 : pbk 0 (some ⟨g', 0, none⟩) b' ≠ g := hap'.2 _ rfl
  have hop' : op = 0 ∨ op = 1 := by omega
  rcases hop' with rfl | rfl
  · exact dm_0_0_0 w S1 S2 ⟨n1, .inl n2⟩ (fun r c => pm_toP hpm r c) hC hR hP
  · have e : (fun r c => px0 0 0 1 (toP dw (sz 0) p r c) (srcP 0 sw s (ay + (r - ry)) (ax + (c - rx)))) = (fun r c => srcP 0 sw s (ay + (r - ry)) (ax + (c - rx))) := by
      funext r c; exact px_copy (by_toP hs _ _ _ _)
    rw [e]
    exact dm_0_0_1 w S1 S2 n1 (fun w' hg => ⟨by obtain ⟨_, _, _, _, h, _⟩ := S2.kept0 hg; exact h, .inl n2⟩) (fun e => absurd e n2) hC hR hP
end Go.Proofs.YtgjpohmjkhgpfaaGreat

namespace Go.Proofs.YtgjpohmjkhgpfaaGreat
open Go.RowKit

/-- what is new may be written -/
theorem gb_new {a w w' : World} {row : Option Nat} (h : a.grownBy w none) (k : w.grownBy w' row) (hr : ∀ g, row = some g → a.heap.size ≤ g) : a.grownBy w' none :=
  ⟨k.os.trans h.os, k.tape.trans h.tape, k.output.trans h.output, Nat.le_trans h.size k.size, fun i hi _ =>
    (k.block i (Nat.lt_of_lt_of_le hi h.size) (fun e => by have := hr i e.symm; omega)).trans (h.block i hi (by simp))⟩
theorem DMout.pre {w w0 w' : World} {B n c : Nat} {A : Option Addr} {q : Nat → Int} {e : Ending} (hg : w0.grownBy w none) (h : DMout w B n c A q e w') : DMout w0 B n c A q e w' :=
  ⟨h.1, gb_trans (gb_weak hg _) h.2.1, h.2.2⟩

set_option maxRecDepth 100000 in
set_option maxHeartbeats 4000000 in
theorem draw_of {w : World} {td ts : TypeId} {vd vs : Value} {x0 y0 x1 y1 px py op : Int} {B n c : Nat} {A : Option Addr} {q : Nat → Int}
    (H : ∀ w', w.grownBy w' none → Calls Tryz.prog 42 #[.iface td vd, vR x0 y0 x1 y1, .iface ts vs, vP px py, .nilIface, vP 0 0, .int .i64 op] w' (DMout w' B n c A q)) :
    Calls Tryz.prog 45 #[.iface td vd, vR x0 y0 x1 y1, .iface ts vs, vP px py, .int .i64 op] w (DMout w B n c A q) := by
  have HH := hid H
  clear H
  go_enter Tryz.func45, Tryz.ntmps45
  go_wp2_with fail
  refine (HH.out _ (gb_alloc (gb_alloc (gb_refl _ _) _) _)).mono ?_
  rintro e w2 h2
  have h3 := h2.pre (w0 := w) (gb_alloc (gb_alloc (gb_refl _ _) _) _)
  obtain ⟨rfl, h4⟩ := h3
  have H4 := hid h4
  clear h2 h4
  go_wp2
  exact bodyPost_end (v := .tuple #[]) (by simp [results, Tryz.results45]) rfl ⟨rfl, H4.out⟩

theorem box_kept {w w' : World} {br bs n' cs : Nat} {r0 r1 r2 r3 ks X0 Y0 X1 Y1 : Int} {As : Option Addr} (h : w.cell? ⟨br, 0, none⟩ = some (.int .i64 r0) ∧ w.cell? ⟨br, 1, none⟩ = some (.int .i64 r1) ∧ w.cell? ⟨br, 2, none⟩ = some (.int .i64 r2) ∧ w.cell? ⟨br, 3, none⟩ = some (.int .i64 r3) ∧ w.cell? ⟨bs, 0, none⟩ = some (.int .i64 ks) ∧ w.cell? ⟨bs, 1, none⟩ = some (.int .i64 X0) ∧ w.cell? ⟨bs, 2, none⟩ = some (.int .i64 Y0) ∧ w.cell? ⟨bs, 3, none⟩ = some (.int .i64 X1) ∧ w.cell? ⟨bs, 4, none⟩ = some (.int .i64 Y1) ∧ w.cell? ⟨bs, 5, none⟩ = some (.slice As n' cs)) (hg : w.grownBy w' none) : w'.cell? ⟨br, 0, none⟩ = some (.int .i64 r0) ∧ w'.cell? ⟨br, 1, none⟩ = some (.int .i64 r1) ∧ w'.cell? ⟨br, 2, none⟩ = some (.int .i64 r2) ∧ w'.cell? ⟨br, 3, none⟩ = some (.int .i64 r3) ∧ w'.cell? ⟨bs, 0, none⟩ = some (.int .i64 ks) ∧ w'.cell? ⟨bs, 1, none⟩ = some (.int .i64 X0) ∧ w'.cell? ⟨bs, 2, none⟩ = some (.int .i64 Y0) ∧ w'.cell? ⟨bs, 3, none⟩ = some (.int .i64 X1) ∧ w'.cell? ⟨bs, 4, none⟩ = some (.int .i64 Y1) ∧ w'.cell? ⟨bs, 5, none⟩ = some (.slice As n' cs) := by
  obtain ⟨a0, a1, a2, a3, a4, a5, a6, a7, a8, a9⟩ := h
  have k := fun {b i : Nat} {v : Value} (hc : w.cell? ⟨b, i, none⟩ = some v) => (gb_cell0 hg (p := ⟨b, i, none⟩) (World.block_lt_of_cell? w _ hc)).trans hc
  exact ⟨k a0, k a1, k a2, k a3, k a4, k a5, k a6, k a7, k a8, k a9⟩
/-- an image's data, as they come in -/
def Dat (k : Nat) (X0 Y0 X1 Y1 x0 y0 x1 y1 : Int) (n : Nat) (p : Nat → Int) : Prop :=
  By p ∧ k ≤ 6 ∧ n ≤ 2147483648 ∧ (k = 6 → n = 8) ∧ (k = 6 ∨ sm X0) ∧ (k = 6 ∨ sm X1) ∧ bdk k (-1000000000) X0 = x0 ∧ bdk k (-1000000000) Y0 = y0 ∧ bdk k 1000000000 X1 = x1 ∧ bdk k 1000000000 Y1 = y1
theorem make_d {k n c : Nat} {X0 Y0 X1 Y1 x0 y0 x1 y1 : Int} {A : Option Addr} {p : Nat → Int} (w : World) (h : Rd w A n p) (D : Dat k X0 Y0 X1 Y1 x0 y0 x1 y1 n p) :
    Calls Tryz.prog 41 #[vI k X0 Y0 X1 Y1 A n c] w (MadeI w k x0 y0 x1 y1 n p) := by
  obtain ⟨h1, h2, h3, h4, h5, h6, h7, h8, h9, h10⟩ := D
  exact make_c w h h1 h2 h3 h4 h5 h6 h7 h8 h9 h10
/-- the bytes that are given back -/
def Out (w : World) (n : Nat) (q : Nat → Int) (e : Ending) (w' : World) : Prop := ∃ A c, e = .returned (.slice A n c) ∧ Own w' w.heap.size n q A c ∧ w.grownBy w' none
theorem IM.tdst {w : World} {B n c b k : Nat} {x0 y0 x1 y1 : Int} {p : Nat → Int} {A : Option Addr} {t : TypeId} (H : IM w B x0 y0 x1 y1 n p A c b k t) (hk : k = 0 ∨ k = 2 ∨ k = 4) : t = 85 ∨ t = 90 ∨ t = 94 := by
  rcases hk with rfl | rfl | rfl <;> cases H
  · exact .inl rfl
  · exact .inr (.inl rfl)
  · exact .inr (.inr rfl)
theorem IM.ne {w : World} {B n c b k : Nat} {x0 y0 x1 y1 : Int} {p : Nat → Int} {A : Option Addr} {t : TypeId} (H : IM w B x0 y0 x1 y1 n p A c b k t) (hk : k ≠ 6) : ∀ a, A = some a → a.block ≠ b := by
  cases H
  case k6 => exact absurd rfl hk
  all_goals (rename_i H; exact H.2.2.2)
/-- the image's last part: its slice is given back -/
theorem pixels_c {w : World} {b n c : Nat} {A : Option Addr} {t : TypeId} (ht : t = 85 ∨ t = 90 ∨ t = 94) (h : w.cell? ⟨b, 0, none⟩ = some (.slice A n c)) :
    Calls Tryz.prog 44 #[.iface t (.pointer (some ⟨b, 0, none⟩))] w fun e w' => e = .returned (.slice A n c) ∧ w = w' := by
  rcases ht with rfl | rfl | rfl
  · exact pixels_RGBA w h
  · exact pixels_Alpha w h
  · exact pixels_RGBA64 w h
theorem ta_draw {t : TypeId} {a : Addr} (ht : t = 85 ∨ t = 90 ∨ t = 94) (w : World) :
    (Instr.typeAssert (.iface t (.pointer (some a))) 72 70 false).run Tryz.prog w = .ok (.iface t (.pointer (some a))) w := by
  rcases ht with rfl | rfl | rfl <;> go_simp

set_option maxRecDepth 100000 in
set_option maxHeartbeats 8000000 in
theorem zzdraw_of {w : World} {kd ks n n' cd cs : Nat} {Xd0 Yd0 Xd1 Yd1 dx0 dy0 dx1 dy1 X0 Y0 X1 Y1 sx0 sy0 sx1 sy1 r0 r1 r2 r3 px py op : Int} {p s q : Nat → Int} {Ad As : Option Addr} (hkd : kd = 0 ∨ kd = 2 ∨ kd = 4)
    (hd : Rd w Ad n p) (hs : Rd w As n' s) (Dd : Dat kd Xd0 Yd0 Xd1 Yd1 dx0 dy0 dx1 dy1 n p) (Ds : Dat ks X0 Y0 X1 Y1 sx0 sy0 sx1 sy1 n' s)
    (H : ∀ (w' : World) (B B' c c' b b' : Nat) (A A' : Option Addr) (td ts : TypeId), IM w' B dx0 dy0 dx1 dy1 n p A c b kd td → IM w' B' sx0 sy0 sx1 sy1 n' s A' c' b' ks ts → Apart A b' A' →
      Calls Tryz.prog 42 #[.iface td (.pointer (some ⟨b, 0, none⟩)), vR r0 r1 r2 r3, .iface ts (.pointer (some ⟨b', 0, none⟩)), vP px py, .nilIface, vP 0 0, .int .i64 op] w' (DMout w' B n c A q)) :
    Calls Tryz.prog 38 #[vI kd Xd0 Yd0 Xd1 Yd1 Ad n cd, vR r0 r1 r2 r3, vI ks X0 Y0 X1 Y1 As n' cs, .int .i64 px, .int .i64 py, .int .i64 op] w (Out w n q) := by
  have hk6 : kd ≠ 6 := by omega
  have HH := hid H
  have Hd := hid hd
  have Hs := hid hs
  have HDd := hid Dd
  have HDs := hid Ds
  have Hk := hid hkd
  clear H hd hs Dd Ds hkd
  go_enter Tryz.func38, Tryz.ntmps38
  go_wp2_with fail
  refine (make_d _ (Hd.out.kept0 (gb_alloc (gb_alloc (gb_alloc (gb_refl _ _) _) _) _)) HDd.out).mono ?_
  rintro e w1 ⟨td, b, A, c, rfl, hI, hg⟩
  have HT := hid (hI.tdst Hk.out)
  have TA := fun (w' : World) => ta_draw (a := ⟨b, 0, none⟩) HT.out w'
  have HI := hid hI
  have Hg := hid hg
  obtain ⟨cc, ff⟩ := gb_rules hg
  have hz := hg.size
  simp at hz
  have hb : b < w1.heap.size := hI.ge.2
  have hbB := hI.ge.1
  simp at hbB
  have hb0 := box_kept (br := w.heap.size + 1) (bs := w.heap.size + 2) (ks := ks) (X0 := X0) (Y0 := Y0) (X1 := X1) (Y1 := Y1) (As := As) (n' := n') (cs := cs) (r0 := r0) (r1 := r1) (r2 := r2) (r3 := r3) ⟨by go_simp, by go_simp, by go_simp, by go_simp, by go_simp, by go_simp, by go_simp, by go_simp, by go_simp, by go_simp⟩ (gb_refl (((w.alloc (.cells #[.int .i64 kd, .int .i64 Xd0, .int .i64 Yd0, .int .i64 Xd1, .int .i64 Yd1, .slice Ad n cd] 64)).alloc (.cells #[.int .i64 r0, .int .i64 r1, .int .i64 r2, .int .i64 r3] 25)).alloc (.cells #[.int .i64 ks, .int .i64 X0, .int .i64 Y0, .int .i64 X1, .int .i64 Y1, .slice As n' cs] 64)) none)
  have HB0 := hid hb0
  have HBX := hid (box_kept hb0 hg)
  clear hb0
  have HG1 := hid (gb_trans (gb_alloc (gb_alloc (gb_alloc (gb_refl w none) _) _) _) hg)
  clear hI hg cc ff
  go_wp2_with fail
  have x1 : w.heap.size + 1 < w1.heap.size := by omega
  have x2 : w.heap.size + 2 < w1.heap.size := by omega
  obtain ⟨a0, a1, a2, a3, a4, a5, a6, a7, a8, a9⟩ := HBX.out
  go_region_held3 (fun W => W.cell? ⟨w.heap.size + 1, 0, none⟩ = some (.int .i64 r0) ∧ W.cell? ⟨w.heap.size + 1, 1, none⟩ = some (.int .i64 r1) ∧ W.cell? ⟨w.heap.size + 1, 2, none⟩ = some (.int .i64 r2) ∧ W.cell? ⟨w.heap.size + 1, 3, none⟩ = some (.int .i64 r3) ∧ W.cell? ⟨w.heap.size + 2, 0, none⟩ = some (.int .i64 ks) ∧ W.cell? ⟨w.heap.size + 2, 1, none⟩ = some (.int .i64 X0) ∧ W.cell? ⟨w.heap.size + 2, 2, none⟩ = some (.int .i64 Y0) ∧ W.cell? ⟨w.heap.size + 2, 3, none⟩ = some (.int .i64 X1) ∧ W.cell? ⟨w.heap.size + 2, 4, none⟩ = some (.int .i64 Y1) ∧ W.cell? ⟨w.heap.size + 2, 5, none⟩ = some (.slice As n' cs)) (first | go_simp | assumption)
    (first
    | (go_at_call 43; refine (zrect_c r0 r1 r2 r3 _).mono ?_; rintro e w2 ⟨rfl, hg2⟩
       have HS2 := box_kept (by assumption) hg2
       have HG2 := hid (gb_trans (gb_drew HG1.out) hg2)
       have HR2 := hid hg2
       have HI2 := hid (HI.out.kept0 (gb_trans (gb_drew (gb_refl _ _)) hg2))
       clear hg2)
    | (go_at_call 41; refine (make_d _ (Hs.out.kept0 HG2.out) HDs.out).mono ?_; rintro e w3 ⟨ts, b', A', c', rfl, hI3, hg3⟩
       have HS3 := box_kept (by assumption) hg3
       have HG3 := hid (gb_trans HG2.out hg3)
       have HR3 := hid hg3
       have HI3 := hid (HI2.out.kept0 hg3)
       have HJ3 := hid hI3
       have hz2 := HG2.out.size
       have HAP : Hid (Apart A b' A') := hid (fun a ha => by
         have q1 := (HI2.out.alt a ha).1
         have q2 := hI3.ge.1
         exact ⟨by omega, fun a' ha' => by have q3 := (hI3.alt a' ha').2; omega⟩)
       clear hg3 hI3)
    | (go_at_call 45; refine (draw_of (A := A) (B := w.heap.size) (n := n) (c := c) (q := q) (fun w' hg' => HH.out w' _ _ _ _ _ _ _ _ _ _ ((HI3.out.kept0 hg').low (by simp <;> omega)) (HJ3.out.kept0 hg') HAP.out)).mono ?_; rintro e w4 ⟨rfl, h4, h5⟩
       have hGW := gb_trans (gb_drew Hg.out) (gb_trans HR2.out HR3.out)
       have hIW := HI3.out
       have hal := HI.out.alt
       have HG4 := gb_new hGW h4 (fun g hg => by
         cases hA : A with
         | none => rw [hA] at hg; cases hg
         | some a => rw [hA] at hg; injection hg with hg; subst hg; exact (hal a hA).2)
       have HS4 := box_kept HB0.out HG4
       have HC4 := (World.cell?_of_block (h4.block b hIW.ge.2 (fun e => by
         cases hA : A with
         | none => rw [hA] at e; cases e
         | some a => rw [hA] at e; injection e with e; exact hIW.ne hk6 a hA e.symm))).trans (hIW.cell0 hk6)
       have HF := hid (And.intro h5 (gb_trans (gb_alloc (gb_alloc (gb_alloc (gb_refl w none) _) _) _) HG4))
       clear h4 h5 hGW hIW hal))
  all_goals (
    go_wp2_with fail
    refine (pixels_c HT.out HC4).mono ?_
    rintro e w5 ⟨rfl, rfl⟩
    go_wp2_with fail
    go_ret
    exact ⟨_, _, rfl, HF.out.1, HF.out.2⟩)
end Go.Proofs.YtgjpohmjkhgpfaaGreat

namespace Go.Proofs.YtgjpohmjkhgpfaaGreat
open Go.RowKit

theorem box3_kept {w w' : World} {bd br bs n n' cd cs : Nat} {r0 r1 r2 r3 kd Xd0 Yd0 Xd1 Yd1 ks X0 Y0 X1 Y1 : Int} {Ad As : Option Addr} (h : w.cell? ⟨bd, 0, none⟩ = some (.int .i64 kd) ∧ w.cell? ⟨bd, 1, none⟩ = some (.int .i64 Xd0) ∧ w.cell? ⟨bd, 2, none⟩ = some (.int .i64 Yd0) ∧ w.cell? ⟨bd, 3, none⟩ = some (.int .i64 Xd1) ∧ w.cell? ⟨bd, 4, none⟩ = some (.int .i64 Yd1) ∧ w.cell? ⟨bd, 5, none⟩ = some (.slice Ad n cd) ∧ w.cell? ⟨br, 0, none⟩ = some (.int .i64 r0) ∧ w.cell? ⟨br, 1, none⟩ = some (.int .i64 r1) ∧ w.cell? ⟨br, 2, none⟩ = some (.int .i64 r2) ∧ w.cell? ⟨br, 3, none⟩ = some (.int .i64 r3) ∧ w.cell? ⟨bs, 0, none⟩ = some (.int .i64 ks) ∧ w.cell? ⟨bs, 1, none⟩ = some (.int .i64 X0) ∧ w.cell? ⟨bs, 2, none⟩ = some (.int .i64 Y0) ∧ w.cell? ⟨bs, 3, none⟩ = some (.int .i64 X1) ∧ w.cell? ⟨bs, 4, none⟩ = some (.int .i64 Y1) ∧ w.cell? ⟨bs, 5, none⟩ = some (.slice As n' cs)) (hg : w.grownBy w' none) : w'.cell? ⟨bd, 0, none⟩ = some (.int .i64 kd) ∧ w'.cell? ⟨bd, 1, none⟩ = some (.int .i64 Xd0) ∧ w'.cell? ⟨bd, 2, none⟩ = some (.int .i64 Yd0) ∧ w'.cell? ⟨bd, 3, none⟩ = some (.int .i64 Xd1) ∧ w'.cell? ⟨bd, 4, none⟩ = some (.int .i64 Yd1) ∧ w'.cell? ⟨bd, 5, none⟩ = some (.slice Ad n cd) ∧ w'.cell? ⟨br, 0, none⟩ = some (.int .i64 r0) ∧ w'.cell? ⟨br, 1, none⟩ = some (.int .i64 r1) ∧ w'.cell? ⟨br, 2, none⟩ = some (.int .i64 r2) ∧ w'.cell? ⟨br, 3, none⟩ = some (.int .i64 r3) ∧ w'.cell? ⟨bs, 0, none⟩ = some (.int .i64 ks) ∧ w'.cell? ⟨bs, 1, none⟩ = some (.int .i64 X0) ∧ w'.cell? ⟨bs, 2, none⟩ = some (.int .i64 Y0) ∧ w'.cell? ⟨bs, 3, none⟩ = some (.int .i64 X1) ∧ w'.cell? ⟨bs, 4, none⟩ = some (.int .i64 Y1) ∧ w'.cell? ⟨bs, 5, none⟩ = some (.slice As n' cs) := by
  obtain ⟨a0, a1, a2, a3, a4, a5, a6, a7, a8, a9, a10, a11, a12, a13, a14, a15⟩ := h
  have k := fun {b i : Nat} {v : Value} (hc : w.cell? ⟨b, i, none⟩ = some v) => (gb_cell0 hg (p := ⟨b, i, none⟩) (World.block_lt_of_cell? w _ hc)).trans hc
  exact ⟨k a0, k a1, k a2, k a3, k a4, k a5, k a6, k a7, k a8, k a9, k a10, k a11, k a12, k a13, k a14, k a15⟩

set_option maxRecDepth 100000 in
set_option maxHeartbeats 8000000 in
theorem idraw_of {w : World} {kd ks n n' cd cs : Nat} {Xd0 Yd0 Xd1 Yd1 dx0 dy0 dx1 dy1 X0 Y0 X1 Y1 sx0 sy0 sx1 sy1 r0 r1 r2 r3 px py op : Int} {p s q : Nat → Int} {Ad As : Option Addr} (hkd : kd = 0 ∨ kd = 2 ∨ kd = 4)
    (hd : Rd w Ad n p) (hs : Rd w As n' s) (Dd : Dat kd Xd0 Yd0 Xd1 Yd1 dx0 dy0 dx1 dy1 n p) (Ds : Dat ks X0 Y0 X1 Y1 sx0 sy0 sx1 sy1 n' s)
    (H : ∀ (w' : World) (B B' c c' b b' : Nat) (A A' : Option Addr) (td ts : TypeId), IM w' B dx0 dy0 dx1 dy1 n p A c b kd td → IM w' B' sx0 sy0 sx1 sy1 n' s A' c' b' ks ts → Apart A b' A' →
      Calls Tryz.prog 42 #[.iface td (.pointer (some ⟨b, 0, none⟩)), vR r0 r1 r2 r3, .iface ts (.pointer (some ⟨b', 0, none⟩)), vP px py, .nilIface, vP 0 0, .int .i64 op] w' (DMout w' B n c A q)) :
    Calls Tryz.prog 25 #[vI kd Xd0 Yd0 Xd1 Yd1 Ad n cd, vR r0 r1 r2 r3, vI ks X0 Y0 X1 Y1 As n' cs, .int .i64 px, .int .i64 py, .int .i64 op] w (Out w n q) := by
  have HH := hid H
  have Hd := hid hd
  have Hs := hid hs
  have HDd := hid Dd
  have HDs := hid Ds
  have Hk := hid hkd
  clear H hd hs Dd Ds hkd
  go_enter Tryz.func25, Tryz.ntmps25
  go_wp2_with fail
  have HX := hid (gb_alloc (gb_alloc (gb_alloc (gb_refl w none) (.cells #[.int .i64 kd, .int .i64 Xd0, .int .i64 Yd0, .int .i64 Xd1, .int .i64 Yd1, .slice Ad n cd] 24)) (.cells #[.int .i64 r0, .int .i64 r1, .int .i64 r2, .int .i64 r3] 25)) (.cells #[.int .i64 ks, .int .i64 X0, .int .i64 Y0, .int .i64 X1, .int .i64 Y1, .slice As n' cs] 24))
  go_region_held3 (fun W => W.cell? ⟨w.heap.size, 0, none⟩ = some (.int .i64 kd) ∧ W.cell? ⟨w.heap.size, 1, none⟩ = some (.int .i64 Xd0) ∧ W.cell? ⟨w.heap.size, 2, none⟩ = some (.int .i64 Yd0) ∧ W.cell? ⟨w.heap.size, 3, none⟩ = some (.int .i64 Xd1) ∧ W.cell? ⟨w.heap.size, 4, none⟩ = some (.int .i64 Yd1) ∧ W.cell? ⟨w.heap.size, 5, none⟩ = some (.slice Ad n cd) ∧ W.cell? ⟨w.heap.size + 1, 0, none⟩ = some (.int .i64 r0) ∧ W.cell? ⟨w.heap.size + 1, 1, none⟩ = some (.int .i64 r1) ∧ W.cell? ⟨w.heap.size + 1, 2, none⟩ = some (.int .i64 r2) ∧ W.cell? ⟨w.heap.size + 1, 3, none⟩ = some (.int .i64 r3) ∧ W.cell? ⟨w.heap.size + 2, 0, none⟩ = some (.int .i64 ks) ∧ W.cell? ⟨w.heap.size + 2, 1, none⟩ = some (.int .i64 X0) ∧ W.cell? ⟨w.heap.size + 2, 2, none⟩ = some (.int .i64 Y0) ∧ W.cell? ⟨w.heap.size + 2, 3, none⟩ = some (.int .i64 X1) ∧ W.cell? ⟨w.heap.size + 2, 4, none⟩ = some (.int .i64 Y1) ∧ W.cell? ⟨w.heap.size + 2, 5, none⟩ = some (.slice As n' cs)) (first | go_simp | assumption)
    (first
    | (go_at_call_of 36 (Value.slice Ad n cd); refine (image_c _ (Hd.out.kept0 (gb_drew HX.out)) HDd.out.2.2.1).mono ?_; rintro e w2 ⟨A, c, rfl, ho2, hg2⟩
       have HS2 := box3_kept (by assumption) hg2
       have HG2 := hid (gb_trans (gb_drew HX.out) hg2)
       have HO2 := hid ho2
       clear hg2 ho2)
    | (go_at_call_of 36 (Value.slice As n' cs); refine (image_c _ (Hs.out.kept0 HG2.out) HDs.out.2.2.1).mono ?_; rintro e w3 ⟨A', c', rfl, ho3, hg3⟩
       have HS3 := box3_kept (by assumption) hg3
       have HG3 := hid (gb_trans HG2.out hg3)
       have HO3 := hid ho3
       have HO2' := hid (HO2.out.kept0 hg3)
       clear hg3 ho3)
    | (go_at_call 38; refine (zzdraw_of Hk.out HO2'.out.rd HO3.out.rd HDd.out HDs.out HH.out).mono ?_; rintro e w4 ⟨A4, c4, rfl, ho4, hg4⟩
       have HS4 := box3_kept (by assumption) hg4
       have hz4 := HG3.out.size
       have HF := hid (And.intro (ho4.low (B' := w.heap.size) hz4) (gb_trans HG3.out hg4))
       clear hg4 ho4 hz4))
  all_goals (
    go_wp2_with fail
    go_ret
    exact ⟨_, _, rfl, HF.out.1, HF.out.2⟩)
end Go.Proofs.YtgjpohmjkhgpfaaGreat

namespace Go.Proofs.YtgjpohmjkhgpfaaGreat
open Go.RowKit

/-- columns and rows of a valid image that is not of one color -/
theorem vk_geo {k : Nat} {x0 y0 x1 y1 : Int} {n : Nat} {p : Nat → Int} (hk : k < 6) (h : VK k x0 y0 x1 y1 n p) :
    ∃ hh wd : Nat, Geo k x0 y0 x1 y1 n hh wd ∧ x1 = x0 + wd ∧ y1 = y0 + hh ∧ n = hh * (wd * sz k) ∧ wd ≤ 128 ∧ hh ≤ 128 ∧ -64 ≤ x0 ∧ x0 ≤ 64 ∧ -64 ≤ y0 ∧ y0 ≤ 64 := by
  rcases h with ⟨-, ⟨h0, h1, h2, h3, h4, h5⟩, h6, -⟩ | ⟨h6, -⟩
  · obtain ⟨u, hu⟩ := Int.eq_ofNat_of_zero_le (show 0 ≤ x1 - x0 by omega)
    obtain ⟨v, hv⟩ := Int.eq_ofNat_of_zero_le (show 0 ≤ y1 - y0 by omega)
    rw [hu, hv] at h6
    have hn : n = v * (u * sz k) := by
      have e : ((v * (u * sz k) : Nat) : Int) = (u : Int) * v * (sz k : Int) := by push_cast; rw [← Int.mul_assoc, Int.mul_comm (v : Int) u]
      omega
    exact ⟨v, u, .inr ⟨hk, by omega, by omega, hn, by omega, by omega, by omega, by omega, by omega, by omega⟩, by omega, by omega, hn, by omega, by omega, by omega, by omega, by omega, by omega⟩
  · omega
theorem vk_dat {k : Nat} {x0 y0 x1 y1 : Int} {n : Nat} {p : Nat → Int} (hk : k < 6) (h : VK k x0 y0 x1 y1 n p) (hp : By p) (hn : n ≤ 2147483647) : Dat k x0 y0 x1 y1 x0 y0 x1 y1 n p := by
  obtain ⟨hh, wd, -, e1, e2, -, l1, l2, v1, v2, v3, v4⟩ := vk_geo hk h
  have b : ∀ f x, bdk k f x = x := fun f x => by unfold bdk; rw [if_neg (by omega)]
  exact ⟨hp, by omega, by omega, by omega, by unfold sm; omega, by unfold sm; omega, b _ _, b _ _, b _ _, b _ _⟩
end Go.Proofs.YtgjpohmjkhgpfaaGreat

namespace Go.Proofs.YtgjpohmjkhgpfaaGreat
open Go.RowKit

/-- the bytes f 0 .. f (n - 1) -/
def byL (n : Nat) (f : Nat → Int) : List Int := (List.range n).map f
theorem byL_congr {n : Nat} {f g : Nat → Int} (h : ∀ i, i < n → f i = g i) : byL n f = byL n g :=
  List.map_congr_left fun i hi => h i (List.mem_range.1 hi)
theorem fold_push (xs : List Int) : ∀ b : ByteArray, List.foldl (fun r n => r.push (UInt8.ofNat n.toNat)) b xs = ⟨b.data ++ (xs.map fun n => UInt8.ofNat n.toNat).toArray⟩ := by
  induction xs with
  | nil => intro b; simp
  | cons x xs ih =>
    intro b
    rw [List.foldl_cons, ih]
    simp [ByteArray.push]
theorem convN {w : World} {A : Addr} {n : Nat} {f : Nat → Int} (c : Nat) (h : ∀ i, i < n → w.cell? (A.add i) = some (.int .u8 (f i))) :
    (convert 22 9 (.slice (some A) n c)).run Tryz.prog w = .ok (.string (strOfNums (byL n f))) w := by
  have hl := run_loadCells_list (P := Tryz.prog) w A ((byL n f).map (.int .u8 ·)) (fun j v hj => by
    have hjn : j < n := by
      rcases Nat.lt_or_ge j n with h | h
      · exact h
      · rw [List.getElem?_eq_none (by simpa [byL] using h)] at hj; cases hj
    have e : ((byL n f).map (Value.int .u8 ·))[j]? = some (.int .u8 (f j)) := by simp [byL, hjn]
    rw [e] at hj
    injection hj with hj
    subst hj
    exact h j hjn)
  have hlen : ((byL n f).map (Value.int .u8 ·)).length = n := by simp [byL]
  rw [hlen] at hl
  rw [run_convert_bytes_string w 22 9 5 _ n c Tryz.underlying22 (by kernel_rfl) (by kernel_rfl), run_bytesToString w _ n c (byL n f) hl, fold_push]
  simp [strOfNums, ByteArray.empty, ByteArray.emptyWithCapacity]
  rfl
theorem convNn {w : World} {A : Addr} {n : Nat} {f : Nat → Int} (c : Nat) (h : ∀ i, i < n → w.cell? (A.add i) = some (.int .u8 (f i))) (k : Nat) :
    (convert 22 9 (.slice (some A) n c)).run Tryz.prog (w.drewN k) = .ok (.string (strOfNums (byL n f))) (w.drewN k) :=
  convN c (fun i hi => by rw [World.cell?_drewN]; exact h i hi)

/-- a byte of a drawn pixel -/
theorem res_atk {k dw r c ch : Nat} {I : Nat → Nat → Prop} {F : Nat → Nat → Nat → Int} {p : Nat → Int} (hc : c < dw) (hch : ch < sz k) (hI : I r c) : resB k dw I F p ((r * dw + c) * sz k + ch) = F r c ch := by
  have h0 : (r * dw + c) * sz k + ch = r * (dw * sz k) + (c * sz k + ch) := by rw [Nat.add_mul, Nat.mul_assoc]; omega
  have hm := pix_col (k := sz k) hc hch
  have e1 : ((r * dw + c) * sz k + ch) / (dw * sz k) = r := by rw [h0, Nat.mul_comm r, Nat.mul_add_div (by omega), Nat.div_eq_of_lt hm, Nat.add_zero]
  have e2 : ((r * dw + c) * sz k + ch) % (dw * sz k) = c * sz k + ch := by rw [h0, Nat.mul_comm r, Nat.mul_add_mod, Nat.mod_eq_of_lt hm]
  unfold resB unP
  rw [e1, e2]
  have e3 : (c * sz k + ch) / sz k = c := by rw [Nat.mul_comm c, Nat.mul_add_div (by omega), Nat.div_eq_of_lt hch, Nat.add_zero]
  have e4 : (c * sz k + ch) % sz k = ch := by rw [Nat.mul_comm c, Nat.mul_add_mod, Nat.mod_eq_of_lt hch]
  rw [e3, e4, pt_pos hI]
/-- one color, cut to the kind's bytes -/
def cut1 (k : Nat) (col : Nat → Int) (ch : Nat) : Int := match k with
  | 0 => col (2 * ch)
  | 2 => col 6
  | _ => col ch
theorem one_px {k : Nat} {d col : Nat → Int} (hk : k = 0 ∨ k = 2 ∨ k = 4) (hc : By col) (ch : Nat) : px0 k 6 1 d col ch = cut1 k col ch := by
  have e : px0 k 6 1 d col = en k (cl 6 col) := by unfold px0 mix0; simp only [if_neg (show ¬ (1 = 0) by decide)]
  rw [e]
  rcases hk with rfl | rfl | rfl
  · rw [en0, cl6]
    have h1 := hc (2 * ch); have h2 := hc (2 * ch + 1)
    show _ = col (2 * ch)
    omega
  · rw [en2, cl6]
    have h1 := hc (2 * 3); have h2 := hc (2 * 3 + 1)
    show _ = col (2 * 3)
    omega
  · rw [en4, cl6]
    have h1 := hc (2 * (ch / 2)); have h2 := hc (2 * (ch / 2) + 1)
    show _ = col ch
    split
    · have : 2 * (ch / 2) = ch := by omega
      rw [this] at h1 h2 ⊢
      omega
    · have : 2 * (ch / 2) + 1 = ch := by omega
      rw [this] at h2 ⊢
      omega
end Go.Proofs.YtgjpohmjkhgpfaaGreat

namespace Go.Proofs.YtgjpohmjkhgpfaaGreat
open Go.RowKit

/-- V: the values that are known (by the operation's number); vs: the variables (the operation that makes it, the one that stores into it, what it holds then) -/
def JV (W0 : World) (V : List (Option Value)) (vs : List (Nat × Nat × List Value)) (l : Nat → Bool) (t : Nat → Value) (w : World) : Prop :=
  W0.grownBy w none ∧ (∀ j v, V[j]? = some (some v) → l j = true → t j = v) ∧
  (∀ x, x ∈ vs → l x.1 = true → ∃ g, t x.1 = .pointer (some ⟨g, 0, none⟩) ∧ W0.heap.size ≤ g ∧ g < w.heap.size ∧
    (∀ i, i < x.2.2.length → (∃ u, w.cell? ⟨g, i, none⟩ = some u) ∧ w.frozen? ⟨g, i, none⟩ = false) ∧
    (l x.2.1 = true → ∀ i v, x.2.2[i]? = some v → w.cell? ⟨g, i, none⟩ = some v)) ∧
  (∀ x y, x ∈ vs → y ∈ vs → x.1 ≠ y.1 → l x.1 = true → l y.1 = true → t x.1 ≠ t y.1) ∧
  (∀ x, x ∈ vs → l x.2.1 = true → l x.1 = true)

section
variable {W0 w w' : World} {V : List (Option Value)} {vs : List (Nat × Nat × List Value)} {l : Nat → Bool} {t : Nat → Value} {i : Nat}

theorem JV.gb (h : JV W0 V vs l t w) : W0.grownBy w none := h.1
theorem JV.val (h : JV W0 V vs l t w) (j : Nat) (v : Value) (hv : V[j]? = some (some v)) (hl : l j = true) : t j = v := h.2.1 j v hv hl
theorem JV.start (hg : W0.grownBy w none) : JV W0 V vs (fun _ => false) t w :=
  ⟨hg, fun _ _ _ h => (by cases h), fun _ _ h => (by cases h), fun _ _ _ _ _ h => (by cases h), fun _ _ h => (by cases h)⟩

def niB (vs : List (Nat × Nat × List Value)) (i : Nat) : Bool := vs.all fun x => x.1 != i && x.2.1 != i
theorem niB_spec (h : niB vs i = true) : ∀ x, x ∈ vs → x.1 ≠ i ∧ x.2.1 ≠ i := fun x hx => by
  have := List.all_eq_true.1 h x hx
  simpa using this
/-- no operation's number is used for two things -/
def vsOK (vs : List (Nat × Nat × List Value)) : Prop :=
  (∀ x y, x ∈ vs → y ∈ vs → x.1 = y.1 → x = y) ∧ (∀ x y, x ∈ vs → y ∈ vs → x.2.1 = y.2.1 → x = y) ∧ (∀ x y, x ∈ vs → y ∈ vs → x.1 ≠ y.2.1)

theorem JV.pure (h : JV W0 V vs l t w) (hg : w.grownBy w' none) {v : Value} (hv : V[i]? = some (some v)) (hni : niB vs i = true) :
    JV W0 V vs (upd l i true) (upd t i v) w' := by
  have hni := niB_spec hni
  obtain ⟨h1, h2, h3, h4, h5⟩ := h
  refine ⟨gb_trans h1 hg, fun j u hu hl => ?_, fun x hx hl => ?_, fun x y hx hy hne hlx hly => ?_, fun x hx hl => (by rw [upd_ne _ _ (hni x hx).2] at hl; rw [upd_ne _ _ (hni x hx).1]; exact h5 x hx hl)⟩
  · by_cases e : j = i
    · subst e
      rw [hv] at hu
      cases hu
      exact upd_same _ _ _
    · rw [upd_ne _ _ e] at hl ⊢
      exact h2 j u hu hl
  · obtain ⟨n1, n2⟩ := hni x hx
    rw [upd_ne _ _ n1] at hl ⊢
    rw [upd_ne _ _ n2]
    obtain ⟨g, e1, e2, e3, e4, e5⟩ := h3 x hx hl
    refine ⟨g, e1, e2, Nat.lt_of_lt_of_le e3 hg.size, fun k hk => ?_, fun hs k v' hv' => ?_⟩
    · obtain ⟨⟨u, hu⟩, hf⟩ := e4 k hk
      exact ⟨⟨u, (gb_cell0 hg (p := ⟨g, k, none⟩) e3).trans hu⟩, (gb_free0 hg (p := ⟨g, k, none⟩) e3).trans hf⟩
    · exact (gb_cell0 hg (p := ⟨g, k, none⟩) e3).trans (e5 hs k v' hv')
  · rw [upd_ne _ _ (hni x hx).1] at hlx ⊢
    rw [upd_ne _ _ (hni y hy).1] at hly ⊢
    exact h4 x y hx hy hne hlx hly

theorem JV.alloc (h : JV W0 V vs l t w) (hok : vsOK vs) {s : Nat} {vals : List Value} (hx : (i, s, vals) ∈ vs) (hv : V[i]? = some none) (hi : l i = false) {C : Array Value} {T : TypeId} (hC : C.size = vals.length)
    (hw : w' = w.alloc (.cells C T)) : JV W0 V vs (upd l i true) (upd t i (.pointer (some ⟨w.heap.size, 0, none⟩))) w' := by
  subst hw
  obtain ⟨h1, h2, h3, h4, h5⟩ := h
  have hs : l s = false := by
    cases e : l s
    · rfl
    · have := h5 _ hx e
      simp only [hi] at this
      cases this
  obtain ⟨k1, k2, k3⟩ := hok
  have hg : w.grownBy (w.alloc (.cells C T)) none := gb_alloc (gb_refl _ _) _
  refine ⟨gb_trans h1 hg, fun j u hu hl => ?_, fun x hxx hl => ?_, fun x y hxx hyy hne hlx hly => ?_, fun x hxx hl => ?_⟩
  · by_cases e : j = i
    · subst e
      rw [hv] at hu
      cases hu
    · rw [upd_ne _ _ e] at hl ⊢
      exact h2 j u hu hl
  · by_cases e : x.1 = i
    · obtain rfl : x = (i, s, vals) := k1 _ _ hxx hx e
      have hsi : s ≠ i := fun e' => k3 _ _ hx hx e'.symm
      refine ⟨w.heap.size, upd_same _ _ _, h1.size, by simp, fun k hk => ?_, fun hs' => ?_⟩
      · have hb : (w.alloc (.cells C T)).heap[w.heap.size]? = some (.cells C T (0, 0)) := by
          show (w.heap.push (.cells C T (0, 0)))[w.heap.size]? = _
          simp
        have hk' : k < C.size := by rw [hC]; exact hk
        exact ⟨⟨C[k], cell_at hb (by simp [hk'])⟩, by unfold World.frozen?; rw [hb]; simp⟩
      · rw [upd_ne _ _ hsi, hs] at hs'
        cases hs'
    · rw [upd_ne _ _ e] at hl ⊢
      have e2 : x.2.1 ≠ i := fun e' => k3 _ _ hx hxx e'.symm
      rw [upd_ne _ _ e2]
      obtain ⟨g, e1, e2, e3, e4, e5⟩ := h3 x hxx hl
      refine ⟨g, e1, e2, Nat.lt_of_lt_of_le e3 hg.size, fun k hk => ?_, fun hs k v' hv' => ?_⟩
      · obtain ⟨⟨u, hu⟩, hf⟩ := e4 k hk
        exact ⟨⟨u, (gb_cell0 hg (p := ⟨g, k, none⟩) e3).trans hu⟩, (gb_free0 hg (p := ⟨g, k, none⟩) e3).trans hf⟩
      · exact (gb_cell0 hg (p := ⟨g, k, none⟩) e3).trans (e5 hs k v' hv')
  · have fresh : ∀ z, z ∈ vs → l z.1 = true → t z.1 ≠ .pointer (some ⟨w.heap.size, 0, none⟩) := by
      intro z hz hlz e
      obtain ⟨g, e1, e2, e3, -⟩ := h3 z hz hlz
      rw [e] at e1
      have := congrArg (fun v : Value => match v with | .pointer (some a) => a.block | _ => 0) e1
      simp only at this
      omega
    by_cases ex : x.1 = i
    · have ey : y.1 ≠ i := fun e => hne (ex.trans e.symm)
      rw [upd_ne _ _ ey] at hly ⊢
      rw [ex, upd_same]
      exact fun e => fresh y hyy hly e.symm
    · rw [upd_ne _ _ ex] at hlx ⊢
      by_cases ey : y.1 = i
      · rw [ey, upd_same]
        exact fresh x hxx hlx
      · rw [upd_ne _ _ ey] at hly ⊢
        exact h4 x y hxx hyy hne hlx hly
  · have e2 : x.2.1 ≠ i := fun e' => k3 _ _ hx hxx e'.symm
    rw [upd_ne _ _ e2] at hl
    by_cases e : x.1 = i
    · rw [e]; exact upd_same _ _ _
    · rw [upd_ne _ _ e]; exact h5 x hxx hl

theorem JV.store (h : JV W0 V vs l t w) (hok : vsOK vs) {a g : Nat} {vals : List Value} (hx : (a, i, vals) ∈ vs) (hv : V[i]? = some none) (hl : l a = true) (hp : t a = .pointer (some ⟨g, 0, none⟩)) {u : Value}
    (hg : w.grownBy w' (some g)) (hc : ∀ k v, vals[k]? = some v → w'.cell? ⟨g, k, none⟩ = some v) (hf : ∀ k, w'.frozen? ⟨g, k, none⟩ = w.frozen? ⟨g, k, none⟩) : JV W0 V vs (upd l i true) (upd t i u) w' := by
  obtain ⟨h1, h2, h3, h4, h5⟩ := h
  obtain ⟨k1, k2, k3⟩ := hok
  obtain ⟨g0, p1, p2, p3, -, -⟩ := h3 _ hx hl
  have hgg : g0 = g := by
    have e := p1.symm.trans hp
    have := congrArg (fun v : Value => match v with | .pointer (some a) => a.block | _ => 0) e
    simpa using this
  subst hgg
  have hgn : ∀ z, z ∈ vs → z.1 ≠ i := fun z hz => k3 _ _ hz hx
  refine ⟨⟨hg.os.trans h1.os, hg.tape.trans h1.tape, hg.output.trans h1.output, Nat.le_trans h1.size hg.size, fun b hb hne => ?_⟩, fun j u' hu hl' => ?_, fun x hxx hlx => ?_, fun x y hxx hyy hne hlx hly => ?_, fun x hxx hlx => ?_⟩
  · refine (hg.block b (Nat.lt_of_lt_of_le hb h1.size) ?_).trans (h1.block b hb hne)
    intro e
    cases e
    omega
  · by_cases e : j = i
    · subst e
      rw [hv] at hu
      cases hu
    · rw [upd_ne _ _ e] at hl' ⊢
      exact h2 j u' hu hl'
  · have n1 := hgn x hxx
    rw [upd_ne _ _ n1] at hlx ⊢
    obtain ⟨g', e1, e2, e3, e4, e5⟩ := h3 x hxx hlx
    by_cases e : x.1 = a
    · obtain rfl : x = (a, i, vals) := k1 _ _ hxx hx e
      obtain rfl : g' = g0 := by
        have e := e1.symm.trans p1
        have := congrArg (fun v : Value => match v with | .pointer (some a) => a.block | _ => 0) e
        simpa using this
      refine ⟨g', e1, e2, Nat.lt_of_lt_of_le e3 hg.size, fun k hk => ⟨⟨vals[k], hc k _ (by simp)⟩, (hf k).trans (e4 k hk).2⟩, fun _ k v' hv' => hc k v' hv'⟩
    · have hne' : g' ≠ g0 := by
        intro e'
        exact h4 x (a, i, vals) hxx hx e hlx hl (by rw [e1, hp, e'])
      have n2 : x.2.1 ≠ i := fun e' => e (congrArg (·.1) (k2 _ _ hxx hx e'))
      rw [upd_ne _ _ n2]
      refine ⟨g', e1, e2, Nat.lt_of_lt_of_le e3 hg.size, fun k hk => ?_, fun hs k v' hv' => ?_⟩
      · obtain ⟨⟨u', hu⟩, hf'⟩ := e4 k hk
        exact ⟨⟨u', (gb_cell hg (p := ⟨g', k, none⟩) e3 hne').trans hu⟩, (World.frozen?_of_block (hg.block g' e3 (fun e => hne' (by injection e)))).trans hf'⟩
      · exact (gb_cell hg (p := ⟨g', k, none⟩) e3 hne').trans (e5 hs k v' hv')
  · rw [upd_ne _ _ (hgn x hxx)] at hlx ⊢
    rw [upd_ne _ _ (hgn y hyy)] at hly ⊢
    exact h4 x y hxx hyy hne hlx hly
  · rw [upd_ne _ _ (hgn x hxx)]
    by_cases e : x.2.1 = i
    · obtain rfl : x = (a, i, vals) := k2 _ _ hxx hx e
      exact hl
    · rw [upd_ne _ _ e] at hlx
      exact h5 x hxx hlx

/-- what the end has of a variable -/
theorem JV.var (h : JV W0 V vs l t w) {a s : Nat} {vals : List Value} (hx : (a, s, vals) ∈ vs) (hl : l a = true) (hs : l s = true) :
    ∃ g, t a = .pointer (some ⟨g, 0, none⟩) ∧ W0.heap.size ≤ g ∧ g < w.heap.size ∧ ∀ k v, vals[k]? = some v → w.cell? ⟨g, k, none⟩ = some v := by
  obtain ⟨g, e1, e2, e3, -, e5⟩ := h.2.2.1 _ hx hl
  exact ⟨g, e1, e2, e3, e5 hs⟩
/-- what a store has of it -/
theorem JV.open (h : JV W0 V vs l t w) {a s : Nat} {vals : List Value} (hx : (a, s, vals) ∈ vs) (hl : l a = true) :
    ∃ g, t a = .pointer (some ⟨g, 0, none⟩) ∧ W0.heap.size ≤ g ∧ g < w.heap.size ∧ ∀ k, k < vals.length → (∃ u, w.cell? ⟨g, k, none⟩ = some u) ∧ w.frozen? ⟨g, k, none⟩ = false := by
  obtain ⟨g, e1, e2, e3, e4, -⟩ := h.2.2.1 _ hx hl
  exact ⟨g, e1, e2, e3, e4⟩
end
theorem vsOK3 {a1 a2 a3 s1 s2 s3 : Nat} {v1 v2 v3 : List Value} (h : (a1 != a2 && a1 != a3 && a2 != a3 && s1 != s2 && s1 != s3 && s2 != s3 && a1 != s1 && a1 != s2 && a1 != s3 && a2 != s1 && a2 != s2 && a2 != s3 && a3 != s1 && a3 != s2 && a3 != s3) = true) :
    vsOK [(a1, s1, v1), (a2, s2, v2), (a3, s3, v3)] := by
  simp only [Bool.and_eq_true, bne_iff_ne] at h
  obtain ⟨⟨⟨⟨⟨⟨⟨⟨⟨⟨⟨⟨⟨⟨h1, h2⟩, h3⟩, h4⟩, h5⟩, h6⟩, h7⟩, h8⟩, h9⟩, h10⟩, h11⟩, h12⟩, h13⟩, h14⟩, h15⟩ := h
  refine ⟨fun x y hx hy e => ?_, fun x y hx hy e => ?_, fun x y hx hy e => ?_⟩ <;>
    (simp only [List.mem_cons, List.not_mem_nil, or_false] at hx hy; rcases hx with rfl | rfl | rfl <;> rcases hy with rfl | rfl | rfl <;> first | rfl | (exfalso; simp only at e; omega))
theorem st2 {w : World} {g : Nat} {u0 u1 v0 v1 : Value} (c0 : w.cell? ⟨g, 0, none⟩ = some u0) (c1 : w.cell? ⟨g, 1, none⟩ = some u1) :
    w.grownBy ((w.setCell ⟨g, 0, none⟩ v0).setCell ⟨g, 1, none⟩ v1) (some g) ∧ (∀ k v, [v0, v1][k]? = some v → ((w.setCell ⟨g, 0, none⟩ v0).setCell ⟨g, 1, none⟩ v1).cell? ⟨g, k, none⟩ = some v) ∧
      ∀ k, ((w.setCell ⟨g, 0, none⟩ v0).setCell ⟨g, 1, none⟩ v1).frozen? ⟨g, k, none⟩ = w.frozen? ⟨g, k, none⟩ := by
  have q0 : w.grownBy (w.setCell ⟨g, 0, none⟩ v0) (some g) := gb_setCell (gb_refl _ _) (p := ⟨g, 0, none⟩) (.inl rfl) _
  have q1 := gb_setCell q0 (p := ⟨g, 1, none⟩) (.inl rfl) v1
  refine ⟨q1, fun k v hk => ?_, fun k => by simp⟩
  rcases k with _ | _ | k
  · obtain rfl : v0 = v := by simpa using hk
    rw [World.cell?_setCell_other _ _ _ _ (by simp)]; exact World.cell?_setCell_same _ _ _ c0
  · obtain rfl : v1 = v := by simpa using hk
    exact World.cell?_setCell_same _ _ _ ((World.cell?_setCell_other _ _ _ _ (by simp)).trans c1)
  · simp at hk
theorem st4 {w : World} {g : Nat} {u0 u1 u2 u3 v0 v1 v2 v3 : Value} (c0 : w.cell? ⟨g, 0, none⟩ = some u0) (c1 : w.cell? ⟨g, 1, none⟩ = some u1) (c2 : w.cell? ⟨g, 2, none⟩ = some u2) (c3 : w.cell? ⟨g, 3, none⟩ = some u3) :
    w.grownBy ((((w.setCell ⟨g, 0, none⟩ v0).setCell ⟨g, 1, none⟩ v1).setCell ⟨g, 2, none⟩ v2).setCell ⟨g, 3, none⟩ v3) (some g) ∧
      (∀ k v, [v0, v1, v2, v3][k]? = some v → ((((w.setCell ⟨g, 0, none⟩ v0).setCell ⟨g, 1, none⟩ v1).setCell ⟨g, 2, none⟩ v2).setCell ⟨g, 3, none⟩ v3).cell? ⟨g, k, none⟩ = some v) ∧
      ∀ k, ((((w.setCell ⟨g, 0, none⟩ v0).setCell ⟨g, 1, none⟩ v1).setCell ⟨g, 2, none⟩ v2).setCell ⟨g, 3, none⟩ v3).frozen? ⟨g, k, none⟩ = w.frozen? ⟨g, k, none⟩ := by
  have q0 : w.grownBy (w.setCell ⟨g, 0, none⟩ v0) (some g) := gb_setCell (gb_refl _ _) (p := ⟨g, 0, none⟩) (.inl rfl) _
  have q1 := gb_setCell q0 (p := ⟨g, 1, none⟩) (.inl rfl) v1
  have q2 := gb_setCell q1 (p := ⟨g, 2, none⟩) (.inl rfl) v2
  have q3 := gb_setCell q2 (p := ⟨g, 3, none⟩) (.inl rfl) v3
  refine ⟨q3, fun k v hk => ?_, fun k => by simp⟩
  rcases k with _ | _ | _ | _ | k
  · obtain rfl : v0 = v := by simpa using hk
    rw [World.cell?_setCell_other _ _ _ _ (by simp), World.cell?_setCell_other _ _ _ _ (by simp), World.cell?_setCell_other _ _ _ _ (by simp)]; exact World.cell?_setCell_same _ _ _ c0
  · obtain rfl : v1 = v := by simpa using hk
    rw [World.cell?_setCell_other _ _ _ _ (by simp), World.cell?_setCell_other _ _ _ _ (by simp)]; exact World.cell?_setCell_same _ _ _ ((World.cell?_setCell_other _ _ _ _ (by simp)).trans c1)
  · obtain rfl : v2 = v := by simpa using hk
    rw [World.cell?_setCell_other _ _ _ _ (by simp)]; exact World.cell?_setCell_same _ _ _ ((World.cell?_setCell_other _ _ _ _ (by simp)).trans ((World.cell?_setCell_other _ _ _ _ (by simp)).trans c2))
  · obtain rfl : v3 = v := by simpa using hk
    exact World.cell?_setCell_same _ _ _ ((World.cell?_setCell_other _ _ _ _ (by simp)).trans ((World.cell?_setCell_other _ _ _ _ (by simp)).trans ((World.cell?_setCell_other _ _ _ _ (by simp)).trans c3)))
  · simp at hk
end Go.Proofs.YtgjpohmjkhgpfaaGreat

namespace Go.Proofs.YtgjpohmjkhgpfaaGreat
open Go.RowKit

/-- block b's first cells hold vs -/
def CellsAt (w : World) (b : Nat) (vs : List Value) : Prop := ∀ i v, vs[i]? = some v → w.cell? ⟨b, i, none⟩ = some v
theorem CellsAt.kept0 {w w' : World} {b : Nat} {vs : List Value} (h : CellsAt w b vs) (hg : w.grownBy w' none) : CellsAt w' b vs := fun i v hv =>
  (gb_cell0 hg (p := ⟨b, i, none⟩) (World.block_lt_of_cell? w _ (h i v hv))).trans (h i v hv)
theorem CellsAt.lt {w : World} {b : Nat} {v : Value} {vs : List Value} (h : CellsAt w b (v :: vs)) : b < w.heap.size := World.block_lt_of_cell? w _ (h 0 v rfl)
/-- bytes that lie in a block's first cells can be read -/
theorem CellsAt.rd {w : World} {b n : Nat} {f : Nat → Int} (h : ∀ i, i < n → w.cell? ⟨b, i, none⟩ = some (.int .u8 (f i))) : Rd w (some ⟨b, 0, none⟩) n f := by
  intro hn
  refine ⟨⟨b, 0, none⟩, rfl, World.block_lt_of_cell? w _ (h 0 hn), fun i hi => ?_⟩
  have e : (⟨b, 0, none⟩ : Addr).add i = ⟨b, i, none⟩ := by unfold Addr.add; by_cases h : i = 0 <;> simp [h]
  rw [e]
  exact h i hi
theorem vsOK1 {a s : Nat} {v : List Value} (h : (a != s) = true) : vsOK [(a, s, v)] := by
  have h' : a ≠ s := by simpa using h
  refine ⟨fun x y hx hy e => ?_, fun x y hx hy e => ?_, fun x y hx hy e => ?_⟩ <;>
    (simp only [List.mem_cons, List.not_mem_nil, or_false] at hx hy; subst hx hy; first | rfl | exact h' e)
end Go.Proofs.YtgjpohmjkhgpfaaGreat

namespace Go.Proofs.YtgjpohmjkhgpfaaGreat
open Go.RowKit

theorem fill_px {s d : Nat → Int} {c : Nat → Int} (h : ∀ i, cl 6 s i = c i) (ch : Nat) : px0 0 6 0 d s ch = (d ch * ((65535 - c 3) * 257) / 65535 + c ch) / 256 := by
  unfold px0 mix0; rw [en0, if_pos rfl, cl0, rest8_eq, h, h]

set_option maxRecDepth 100000 in
set_option maxHeartbeats 8000000 in
theorem drawFillOver_c {bd pd dh dw rx ry xe ye : Nat} {dx0 dy0 x0 y0 x1 y1 : Int} {D : Nat → Nat → Nat → Int} {T1 : TypeId} {s c : Nat → Int} (w : World)
    (Hd : Pic w bd T1 pd 4 dh dw dx0 dy0 D) (HR : Rct x0 y0 x1 y1 dx0 dy0 rx ry xe ye dh dw) (hs : By s) (hcs : ∀ i, cl 6 s i = c i) (hpm : Pm 6 s) :
    Calls Tryz.prog 52 #[.pointer (some ⟨bd, 0, none⟩), vR x0 y0 x1 y1, .int .u32 (c 0), .int .u32 (c 1), .int .u32 (c 2), .int .u32 (c 3)] w
      (Drawn w pd 4 dh dw rx ry xe ye (fun r cc => px0 0 6 0 (D r cc) s) D) := by
  obtain ⟨nd, cd, st, d0, d1, d2, d3, -, -, b1, hpd, hnd, hst, hcd, hmx, hne, l7, l8, v1, v2, v3, v4, hB⟩ := Hd.cells
  obtain ⟨e1, e2, e3, e4, l1, l2, l3, l4⟩ := HR
  have a1 : -4000 ≤ x0 ∧ x0 ≤ 4000 ∧ -4000 ≤ y0 ∧ y0 ≤ 4000 := by omega
  have a2 : -4000 ≤ x1 ∧ x1 ≤ 4000 ∧ -4000 ≤ y1 ∧ y1 ≤ 4000 := by omega
  have q1 : st ≤ 512 := by omega
  have s0 : 0 ≤ c 0 ∧ c 0 ≤ 65535 := by rw [← hcs]; exact cl_range hs _
  have s1 : 0 ≤ c 1 ∧ c 1 ≤ 65535 := by rw [← hcs]; exact cl_range hs _
  have s2 : 0 ≤ c 2 ∧ c 2 ≤ 65535 := by rw [← hcs]; exact cl_range hs _
  have s3 : 0 ≤ c 3 ∧ c 3 ≤ 65535 := by rw [← hcs]; exact cl_range hs _
  have m0 : c 0 ≤ c 3 := by have := hpm 0 (by omega); rw [hcs, hcs] at this; exact this
  have m1 : c 1 ≤ c 3 := by have := hpm 1 (by omega); rw [hcs, hcs] at this; exact this
  have m2 : c 2 ≤ c 3 := by have := hpm 2 (by omega); rw [hcs, hcs] at this; exact this
  have Hnd := hid hnd
  have Hst := hid hst
  have HB := hid hB
  have HHd := hid Hd
  have Hpl := hid hpd.lt
  have Hcs := hid hcs
  have hbb : nd ≤ 65536 := by
    rw [hnd]; exact Nat.le_trans (Nat.mul_le_mul l8 q1) (by omega)
  clear hnd hst hB Hd hcs hpm hs
  obtain ⟨F, hF⟩ : ∃ F : Nat → Nat → Nat → Int, F = fun r cc => px0 0 6 0 (D r cc) s := ⟨_, rfl⟩
  rw [← hF]
  have HF := hid hF
  clear hF
  go_enter Tryz.func52, Tryz.ntmps52
  go_wp2_with fail
  refine (off_RGBA bd st ry rx (ry * st + rx * 4) _ _ _ _ _ (by go_simp) (by go_simp) (by go_simp) e1 e2 (by omega) (by omega) (by omega) rfl).mono ?_
  rintro e w1 ⟨rfl, hg1⟩
  obtain ⟨c1, f1⟩ := gb_rules hg1
  have z1 : w.heap.size < w1.heap.size := by have := hg1.size; simp at this; omega
  have t1 : bd < w1.heap.size := by omega
  have zz : w.heap.size ≤ w.heap.size := Nat.le_refl _
  obtain ⟨q0, hq0⟩ : ∃ q0 : Nat, ry * st + rx * 4 = q0 := ⟨_, rfl⟩
  have hqb : q0 ≤ 70000 := by
    rw [← hq0]; have := Nat.mul_le_mul (show ry ≤ 128 by omega) q1; omega
  rw [hq0]
  have Hq0 := hid hq0
  clear hq0
  go_wp2_with fail
  refine (dx_c x0 y0 x1 y1 _ (by unfold sm; omega) (by unfold sm; omega)).mono ?_
  rintro e w2 ⟨rfl, rfl⟩
  go_wp2_with fail
  go_loopw [15, 13, 14] (fun y u v wr => ∃ j ro : Nat, ry + j ≤ ye ∧ ro = (ry + j) * st ∧ y = .int .i64 (y0 + j) ∧ u = .int .i64 ((ro + rx * 4 : Nat) : Int) ∧ v = .int .i64 ((ro + xe * 4 : Nat) : Int) ∧ w.grownBy wr (some pd) ∧
       PixI wr pd dh dw 4 (pt (fw rx xe ry j 0) F D) ∧ wr.cell? ⟨w.heap.size, 2, none⟩ = some (.int .i64 x1) ∧ wr.cell? ⟨w.heap.size, 3, none⟩ = some (.int .i64 y1)) (fun y _ _ _ => (y1 - intOf y).toNat)
  case atStart =>
    have hq0 := Hq0.out
    refine ⟨0, ry * st, by omega, by simp, by simp, ?_, ?_, ?_, ?_, ?_, ?_⟩
    · rw [← hq0]
    · congr 1; push_cast; have : ((ry * st + rx * 4 : Nat) : Int) = q0 := by rw [hq0]
      push_cast at this; omega
    · exact gb_alloc (gb_trans' (gb_alloc (gb_refl _ _) _) hg1) _
    · refine pt_start (PixI.alloc ?_ _) (fun r c _ _ => by unfold fw; omega)
      exact PixI.kept (PixI.alloc hpd _) (gb_block0 hg1 (by simp; have := hpd.lt; omega))
    · go_simp
    · go_simp
  case round =>
    obtain ⟨j, ro, hj, hro, rfl, rfl, rfl, hgb, hg', R2, R3⟩ := hrel
    have HC := hid (And.intro d0 d1)
    have D0 : wr.cell? ⟨bd, 0, none⟩ = some (.slice (some ⟨pd, 0, none⟩) nd cd) := (gb_cell hgb b1 hne).trans d0
    have D1 : wr.cell? ⟨bd, 1, none⟩ = some (.int .i64 st) := (gb_cell hgb b1 hne).trans d1
    clear d0 d1 hpd c1 f1
    by_cases hlt : ry + j < ye
    · have hn1 : ¬ (y0 + (j : Int) = y1) := by omega
      have hrb : ro + xe * 4 ≤ nd := by
        have hh := pix_bound (h := dh) (wd := dw) (k := 4) (r := ry + j) (c := xe - 1) (ch := 3) (by omega) (by omega) (by omega)
        rw [Hst.out, ← hro] at hh; rw [Hnd.out]; omega
      have Hro := hid hro
      clear hro
      go_wp2
      obtain ⟨wo, ho⟩ : ∃ wo : World, wo = wr := ⟨_, rfl⟩
      go_loopw [16] (fun u wr => ∃ i : Nat, rx + i ≤ xe ∧ u = .int .i64 ((ro + (rx + i) * 4 : Nat) : Int) ∧ w.grownBy wr (some pd) ∧
           PixI wr pd dh dw 4 (pt (fw rx xe ry j i) F D) ∧ wr.cell? ⟨w.heap.size, 2, none⟩ = some (.int .i64 x1) ∧ wr.cell? ⟨w.heap.size, 3, none⟩ = some (.int .i64 y1)) (fun u _ => (ro + xe * 4) - (intOf u).toNat)
      case atStart => exact ⟨0, by omega, by first | rfl | (simp; done) | go_num, hgb, hg', R2, R3⟩
      case round =>
        clear ho wo D0 D1 hg' hgb R2 R3
        obtain ⟨i, hi, rfl, hgb, hg, R2, R3⟩ := hrel
        have D0 : wr.cell? ⟨bd, 0, none⟩ = some (.slice (some ⟨pd, 0, none⟩) nd cd) := (gb_cell hgb b1 hne).trans HC.out.1
        have D1 : wr.cell? ⟨bd, 1, none⟩ = some (.int .i64 st) := (gb_cell hgb b1 hne).trans HC.out.2
        by_cases hlti : rx + i < xe
        · obtain ⟨dp, hdp⟩ : ∃ dp : Nat → Int, D (ry + j) (rx + i) = dp := ⟨_, rfl⟩
          have hFv : F (ry + j) (rx + i) = px0 0 6 0 dp s := by rw [HF.out]; dsimp only; rw [hdp]
          have bdp : By dp := by rw [← hdp]; exact HB.out _ _
          have k0 := hg.cell (r := ry + j) (c := rx + i) (ch := 0) (i := ro + (rx + i) * 4) (by omega) (by omega) (by omega) (by rw [Hst.out, Hro.out]; rfl)
          have k1 := hg.cell (r := ry + j) (c := rx + i) (ch := 1) (i := ro + (rx + i) * 4 + 1) (by omega) (by omega) (by omega) (by rw [Hst.out, Hro.out])
          have k2 := hg.cell (r := ry + j) (c := rx + i) (ch := 2) (i := ro + (rx + i) * 4 + 2) (by omega) (by omega) (by omega) (by rw [Hst.out, Hro.out])
          have k3 := hg.cell (r := ry + j) (c := rx + i) (ch := 3) (i := ro + (rx + i) * 4 + 3) (by omega) (by omega) (by omega) (by rw [Hst.out, Hro.out])
          rw [pt_neg (by unfold fw; omega), hdp] at k0 k1 k2 k3
          have F0 := fun k => hg.free k
          have B0 := bdp 0; have B1 := bdp 1; have B2 := bdp 2; have B3 := bdp 3
          have Q0 := rest8_le B0.1 B0.2 (show 0 ≤ 65535 - c 3 by omega)
          have Q1 := rest8_le B1.1 B1.2 (show 0 ≤ 65535 - c 3 by omega)
          have Q2 := rest8_le B2.1 B2.2 (show 0 ≤ 65535 - c 3 by omega)
          have Q3 := rest8_le B3.1 B3.2 (show 0 ≤ 65535 - c 3 by omega)
          have hpl := hg.lt
          have hne5 : pd ≠ w.heap.size := by have := Hpl.out; omega
          have HFv := hid hFv
          have Hg := hid hg
          have Hdp := hid (And.intro hdp bdp)
          clear hg hdp bdp hFv
          go_wp2
          refine ⟨⟨i + 1, by omega, by go_num, ?_, ?_, ?_, ?_⟩, by simp [intOf]; omega⟩
          · exact gb_setCell (gb_setCell (gb_setCell (gb_setCell hgb (.inl rfl) _) (.inl rfl) _) (.inl rfl) _) (.inl rfl) _
          · refine pix4 (dn := fw rx xe ry j i) Hg.out (r := ry + j) (c := rx + i) (by omega) (by omega) (by rw [Hst.out, Hro.out]) (fun r' c' => by unfold fw; omega) ?_ ?_ ?_ ?_
            all_goals (rw [HFv.out, fill_px Hcs.out])
          · go_simp
          · go_simp
        · go_wp2
          refine ⟨⟨j + 1, ro + st, by omega, next_row Hro.out, by go_num, by go_num, by go_num, hgb, ?_, R2, R3⟩, by simp [intOf]; omega⟩
          exact pt_turn hg (fun r c _ _ => by unfold fw; omega)
    · have hn1 : y0 + (j : Int) = y1 := by omega
      go_wp2
      go_end0
      exact ⟨rfl, hgb, pt_turn hg' (fun r c _ _ => by unfold fw inR; omega)⟩
end Go.Proofs.YtgjpohmjkhgpfaaGreat

namespace Go.Proofs.YtgjpohmjkhgpfaaGreat
open Go.RowKit

theorem fills_px {s d : Nat → Int} {c : Nat → Int} (h : ∀ i, cl 6 s i = c i) (ch : Nat) : px0 0 6 1 d s ch = c ch / 256 := by
  unfold px0 mix0; rw [en0, if_neg (by omega), h]

set_option maxRecDepth 100000 in
set_option maxHeartbeats 8000000 in
theorem drawFillSrc_c {bd pd dh dw rx ry xe ye : Nat} {dx0 dy0 x0 y0 x1 y1 : Int} {D : Nat → Nat → Nat → Int} {T1 : TypeId} {s c : Nat → Int} (w : World)
    (Hd : Pic w bd T1 pd 4 dh dw dx0 dy0 D) (HR : Rct x0 y0 x1 y1 dx0 dy0 rx ry xe ye dh dw) (hs : By s) (hcs : ∀ i, cl 6 s i = c i) :
    Calls Tryz.prog 51 #[.pointer (some ⟨bd, 0, none⟩), vR x0 y0 x1 y1, .int .u32 (c 0), .int .u32 (c 1), .int .u32 (c 2), .int .u32 (c 3)] w
      (Drawn w pd 4 dh dw rx ry xe ye (fun r cc => px0 0 6 1 (D r cc) s) D) := by
  obtain ⟨nd, cd, st, d0, d1, d2, d3, -, -, b1, hpd, hnd, hst, hcd, hmx, hne, l7, l8, v1, v2, v3, v4, hB⟩ := Hd.cells
  obtain ⟨e1, e2, e3, e4, l1, l2, l3, l4⟩ := HR
  have a1 : -4000 ≤ x0 ∧ x0 ≤ 4000 ∧ -4000 ≤ y0 ∧ y0 ≤ 4000 := by omega
  have a2 : -4000 ≤ x1 ∧ x1 ≤ 4000 ∧ -4000 ≤ y1 ∧ y1 ≤ 4000 := by omega
  have q1 : st ≤ 512 := by omega
  have s0 : 0 ≤ c 0 ∧ c 0 ≤ 65535 := by rw [← hcs]; exact cl_range hs _
  have s1 : 0 ≤ c 1 ∧ c 1 ≤ 65535 := by rw [← hcs]; exact cl_range hs _
  have s2 : 0 ≤ c 2 ∧ c 2 ≤ 65535 := by rw [← hcs]; exact cl_range hs _
  have s3 : 0 ≤ c 3 ∧ c 3 ≤ 65535 := by rw [← hcs]; exact cl_range hs _
  have Hnd := hid hnd
  have Hst := hid hst
  have HB := hid hB
  have HHd := hid Hd
  have Hpl := hid hpd.lt
  have Hcs := hid hcs
  have hbb : nd ≤ 65536 := by
    rw [hnd]; exact Nat.le_trans (Nat.mul_le_mul l8 q1) (by omega)
  clear hnd hst hB Hd hcs hs
  obtain ⟨F, hF⟩ : ∃ F : Nat → Nat → Nat → Int, F = fun r cc => px0 0 6 1 (D r cc) s := ⟨_, rfl⟩
  rw [← hF]
  have HF := hid hF
  clear hF
  have u0 := dv256 s0; have u1 := dv256 s1; have u2 := dv256 s2; have u3 := dv256 s3
  go_enter Tryz.func51, Tryz.ntmps51
  go_wp2_with fail
  refine (off_RGBA bd st ry rx (ry * st + rx * 4) _ _ _ _ _ (by go_simp) (by go_simp) (by go_simp) e1 e2 (by omega) (by omega) (by omega) rfl).mono ?_
  rintro e w1 ⟨rfl, hg1⟩
  obtain ⟨c1, f1⟩ := gb_rules hg1
  have z1 : w.heap.size < w1.heap.size := by have := hg1.size; simp at this; omega
  have t1 : bd < w1.heap.size := by omega
  obtain ⟨q0, hq0⟩ : ∃ q0 : Nat, ry * st = q0 := ⟨_, rfl⟩
  have hrb : q0 + xe * 4 ≤ nd := by
    have hh := pix_bound (h := dh) (wd := dw) (k := 4) (r := ry) (c := xe - 1) (ch := 3) (by omega) (by omega) (by omega)
    rw [Hst.out, hq0] at hh; rw [Hnd.out]; omega
  rw [hq0]
  have Hq0 := hid hq0
  clear hq0
  have E1 : (q0 : Int) + rx * 4 + (x1 - x0) * 4 = (q0 : Int) + xe * 4 := by omega
  go_wp2_with fail
  refine (dx_c x0 y0 x1 y1 _ (by unfold sm; omega) (by unfold sm; omega)).mono ?_
  rintro e w2 ⟨rfl, rfl⟩
  go_wp2_with fail
  go_loopw [18] (fun u wr => ∃ i : Nat, rx + i ≤ xe ∧ u = .int .i64 ((q0 + (rx + i) * 4 : Nat) : Int) ∧ w.grownBy wr (some pd) ∧
       PixI wr pd dh dw 4 (pt (fw rx xe ry 0 i) F D) ∧ wr.cell? ⟨w.heap.size, 1, none⟩ = some (.int .i64 y0) ∧ wr.cell? ⟨w.heap.size, 3, none⟩ = some (.int .i64 y1)) (fun u _ => (q0 + xe * 4) - (intOf u).toNat)
  case atStart =>
    refine ⟨0, by omega, rfl, ?_, ?_, ?_, ?_⟩
    · exact gb_alloc (gb_trans' (gb_alloc (gb_refl _ _) _) hg1) _
    · refine pt_start (PixI.alloc ?_ _) (fun r c _ _ => by unfold fw; omega)
      exact PixI.kept (PixI.alloc hpd _) (gb_block0 hg1 (by simp; have := hpd.lt; omega))
    · go_simp
    · go_simp
  case round =>
    obtain ⟨i, hi, rfl, hgb, hg, R1, R3⟩ := hrel
    have HC := hid (And.intro d0 d1)
    have D0 : wr.cell? ⟨bd, 0, none⟩ = some (.slice (some ⟨pd, 0, none⟩) nd cd) := (gb_cell hgb b1 hne).trans d0
    have D1 : wr.cell? ⟨bd, 1, none⟩ = some (.int .i64 st) := (gb_cell hgb b1 hne).trans d1
    clear d0 d1 hpd c1 f1 E1
    by_cases hlti : rx + i < xe
    · have k0 := hg.cell (r := ry) (c := rx + i) (ch := 0) (i := q0 + (rx + i) * 4) (by omega) (by omega) (by omega) (by rw [Hst.out, Hq0.out]; rfl)
      have k1 := hg.cell (r := ry) (c := rx + i) (ch := 1) (i := q0 + (rx + i) * 4 + 1) (by omega) (by omega) (by omega) (by rw [Hst.out, Hq0.out])
      have k2 := hg.cell (r := ry) (c := rx + i) (ch := 2) (i := q0 + (rx + i) * 4 + 2) (by omega) (by omega) (by omega) (by rw [Hst.out, Hq0.out])
      have k3 := hg.cell (r := ry) (c := rx + i) (ch := 3) (i := q0 + (rx + i) * 4 + 3) (by omega) (by omega) (by omega) (by rw [Hst.out, Hq0.out])
      have F0 := fun k => hg.free k
      have hpl := hg.lt
      have hne5 : pd ≠ w.heap.size := by have := Hpl.out; omega
      have Hg := hid hg
      clear hg
      go_wp2
      refine ⟨⟨i + 1, by omega, by go_num, ?_, ?_, ?_, ?_⟩, by simp [intOf]; omega⟩
      · exact gb_setCell (gb_setCell (gb_setCell (gb_setCell hgb (.inl rfl) _) (.inl rfl) _) (.inl rfl) _) (.inl rfl) _
      · refine pix4 (dn := fw rx xe ry 0 i) Hg.out (r := ry) (c := rx + i) (by omega) (by omega) (by rw [Hst.out, Hq0.out]) (fun r' c' => by unfold fw; omega) ?_ ?_ ?_ ?_
        all_goals (rw [HF.out]; dsimp only; rw [fills_px Hcs.out])
      · go_simp
      · go_simp
    · have hg1 := pt_turn hg (dn' := fw rx xe ry 1 0) (fun r c _ _ => by unfold fw; omega)
      clear hg
      go_wp2
      clear D0 D1
      go_loopw [20, 16, 17] (fun y u v wr => ∃ j ro : Nat, ry + j < ye ∧ ro = (ry + j) * st ∧ y = .int .i64 (y0 + j + 1) ∧ u = .int .i64 ((ro + rx * 4 : Nat) : Int) ∧ v = .int .i64 ((ro + xe * 4 : Nat) : Int) ∧ w.grownBy wr (some pd) ∧
           PixI wr pd dh dw 4 (pt (fw rx xe ry (j + 1) 0) F D) ∧ wr.cell? ⟨w.heap.size, 3, none⟩ = some (.int .i64 y1)) (fun y _ _ _ => (y1 - intOf y).toNat)
      case atStart => exact ⟨0, q0, by omega, by rw [← Hq0.out]; rfl, by simp, by simp, by simp, hgb, hg1, R3⟩
      case round =>
        clear hgb hg1 R1 R3
        obtain ⟨j, ro, hj, hro, rfl, rfl, rfl, hgb, hg', R3⟩ := hrel
        have D0 : wr.cell? ⟨bd, 0, none⟩ = some (.slice (some ⟨pd, 0, none⟩) nd cd) := (gb_cell hgb b1 hne).trans HC.out.1
        have D1 : wr.cell? ⟨bd, 1, none⟩ = some (.int .i64 st) := (gb_cell hgb b1 hne).trans HC.out.2
        by_cases hlt : ry + j + 1 < ye
        · have hrb : ro + st + xe * 4 ≤ nd := by
            have hh := pix_bound (h := dh) (wd := dw) (k := 4) (r := ry + j + 1) (c := xe - 1) (ch := 3) (by omega) (by omega) (by omega)
            rw [Hst.out, Nat.add_mul, ← hro] at hh; rw [Hnd.out]; omega
          have Hro := hid hro
          clear hro
          have Hg := hid hg'
          clear hg'
          obtain ⟨w2, hrun, hgb2, hg2, hc2⟩ := copy_pix (w0 := w) (R := Tryz.prog) (dn' := fw rx xe ry (j + 2) 0) 22 22 3 _ Tryz.underlying22 (by kernel_rfl) (ry + j + 1) rx (xe - rx) (ro + rx * 4 + st) (ro + xe * 4 + st - (ro + rx * 4 + st)) (cd - (ro + rx * 4 + st)) pd
            (q0 + rx * 4) (q0 + xe * 4 - (q0 + rx * 4)) (cd - (q0 + rx * 4)) Hg.out (by omega) (by omega) (by omega) (by omega) (by rw [Hst.out, Nat.add_mul, ← Hro.out]; omega) (by omega) (by omega) (by
              intro c ch hc hch
              have := Hg.out.cell (r := ry) (c := rx + c) (ch := ch) (i := q0 + rx * 4 + (c * 4 + ch)) (by omega) (by omega) hch (by rw [Hst.out, Hq0.out]; omega)
              rw [pt_pos (by unfold fw; omega), HF.out] at this
              rw [this, HF.out]; dsimp only; rw [fills_px Hcs.out, fills_px Hcs.out])
            (fun r' c' => by unfold fw; omega) hgb
          go_wp2
          refine ⟨⟨j + 1, ro + st, by omega, next_row Hro.out, by go_num, by go_num, by go_num, hgb2, hg2, ?_⟩, by simp [intOf]; omega⟩
          rw [hc2 _ _ (by have := Hpl.out; omega)]; exact R3
        · go_wp2
          go_end0
          exact ⟨rfl, hgb, pt_turn hg' (fun r c _ _ => by unfold fw inR; omega)⟩
end Go.Proofs.YtgjpohmjkhgpfaaGreat
