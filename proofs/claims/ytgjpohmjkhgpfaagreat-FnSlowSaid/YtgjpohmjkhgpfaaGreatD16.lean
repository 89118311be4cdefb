/- Parts of the proof: what the functions of the package and of the reference do (Y2). No condition but those that each theorem names. -/
import Derived.Test.YtgjpohmjkhgpfaaGreatD03
import Derived.Test.YtgjpohmjkhgpfaaGreatD04
import Derived.Test.YtgjpohmjkhgpfaaGreatD15
import Derived.Deep.RegionHeld3
set_option linter.unusedSimpArgs false
set_option linter.unusedVariables false
namespace Go.Proofs.YtgjpohmjkhgpfaaGreat
open Go.RowKit

section
variable {w : World} {b pb h wd k : Nat} {x0 y0 : Int} {S : Nat → Nat → Nat → Int} {t : TypeId}
theorem Src.tad (H : Src w b pb h wd x0 y0 S k t) (hk : k = 2 ∨ k = 4) (w' : World) :
    (Instr.typeAssert (.iface t (.pointer (some ⟨b, 0, none⟩))) 70 85 true).run Tryz.prog w' = .ok (.tuple #[.pointer none, .bool false]) w' ∧
    (Instr.typeAssert (.iface t (.pointer (some ⟨b, 0, none⟩))) 70 128 true).run Tryz.prog w' = .ok (.tuple #[.pointer none, .bool false]) w' ∧
    (Instr.typeAssert (.iface t (.pointer (some ⟨b, 0, none⟩))) 70 88 true).run Tryz.prog w' = .ok (.tuple #[.pointer none, .bool false]) w' ∧
    (Instr.typeAssert (.iface t (.pointer (some ⟨b, 0, none⟩))) 70 142 true).run Tryz.prog w' = .ok (.tuple #[.pointer none, .bool false]) w' ∧
    (Instr.typeAssert (.iface t (.pointer (some ⟨b, 0, none⟩))) 70 146 true).run Tryz.prog w' = .ok (.tuple #[.iface t (.pointer (some ⟨b, 0, none⟩)), .bool true]) w' := by
  cases H <;> (first | omega | skip)
  · exact ⟨by go_simp, by go_simp, by go_simp, by go_simp, by go_simp⟩
  · exact ⟨by go_simp, by go_simp, by go_simp, by go_simp, by go_simp⟩
/-- there is no nil pointer behind it -/
theorem Src.nila (H : Src w b pb h wd x0 y0 S k t) (hk : k = 2 ∨ k = 4) (w' : World) : (nilAhead 326 t (.pointer (some ⟨b, 0, none⟩)) "SetRGBA64").run Tryz.prog w' = .ok (some false) w' := by
  cases H <;> (first | omega | skip)
  · kernel_rfl
  · kernel_rfl
theorem Src.pix (H : Src w b pb h wd x0 y0 S k t) (hk : k < 6) : pb < w.heap.size := by
  cases H <;> (first | omega | skip)
  all_goals (rename_i H; obtain ⟨_, _, _, _, hp, _⟩ := H; exact hp.lt)
theorem Src.pixi (H : Src w b pb h wd x0 y0 S k t) (hk : k < 6) : PixI w pb h wd (sz k) S := by
  cases H <;> (first | omega | skip)
  all_goals (rename_i H; obtain ⟨_, _, _, _, hp, _⟩ := H; exact hp)
end
theorem px0_src {kd ks op : Nat} {d s : Nat → Int} (h : op ≠ 0) : px0 kd ks op d s = en kd (cl ks s) := by
  unfold px0 mix0; simp only [if_neg h]
theorem pt_no {dn : Nat → Nat → Prop} {F D : Nat → Nat → Nat → Int} (h : ∀ r c, ¬ dn r c) : pt dn F D = D := by
  funext r c ch; exact pt_neg (h r c) ch
theorem pt_eq {dn dn' : Nat → Nat → Prop} {F D : Nat → Nat → Nat → Int} (h : ∀ r c, dn r c ↔ dn' r c) : pt dn F D = pt dn' F D := by
  funext r c ch; exact pt_iff (h r c) ch

set_option maxRecDepth 100000 in
set_option maxHeartbeats 8000000 in
theorem dm17_0 {bd pd dh dw bs ps sh sw kd ks op rx ry xe ye sx sy : Nat} {dx0 dy0 sx0 sy0 x0 y0 x1 y1 px py qx qy b0 b1 b2 b3 p0 p1 q0 q1 : Int} {D S : Nat → Nat → Nat → Int} {td ts : TypeId} (w : World)
    (hD : Src w bd pd dh dw dx0 dy0 D kd td) (hkd : kd = 2 ∨ kd = 4) (hS : Src w bs ps sh sw sx0 sy0 S ks ts) (hop : op ≤ 1) (hpm : ∀ r c, Pm ks (S r c)) (n0 : bd ≠ bs) (n1 : bs ≠ pd) (n2 : ps ≠ pd) (n3 : bd ≠ pd)
    (hC : Cl0 x0 y0 x1 y1 px py qx qy dx0 dy0 (dx0 + dw) (dy0 + dh) sx0 sy0 (sx0 + sw) (sy0 + sh) b0 b1 b2 b3 p0 p1 q0 q1)
    (hR : Rct b0 b1 b2 b3 dx0 dy0 rx ry xe ye dh dw) (hP : Plc p0 p1 sx0 sy0 sx sy rx ry xe ye sh sw) (hb : -3000 ≤ dx0 ∧ dx0 ≤ 3000 ∧ -3000 ≤ dy0 ∧ dy0 ≤ 3000 ∧ dw ≤ 128 ∧ dh ≤ 128) (hsx : sm sx0 ∧ sm sy0 ∧ sm sw ∧ sm sh) :
    Calls Tryz.prog 42 #[.iface td (.pointer (some ⟨bd, 0, none⟩)), vR x0 y0 x1 y1, .iface ts (.pointer (some ⟨bs, 0, none⟩)), vP px py, .nilIface, vP qx qy, .int .i64 op] w
      (Drawn w pd (sz kd) dh dw rx ry xe ye (fun r c => px0 kd ks op (D r c) (S (sy + (r - ry)) (sx + (c - rx)))) D) := by
  obtain ⟨F, hF⟩ : ∃ F : Nat → Nat → Nat → Int, F = (fun r c => cutN (sz kd) (px0 kd ks op (D r c) (S (sy + (r - ry)) (sx + (c - rx))))) := ⟨_, rfl⟩
  refine Calls.mono (R := Drawn w pd (sz kd) dh dw rx ry xe ye F D) ?_ (fun e w' h => ⟨h.1, h.2.1, h.2.2.congr fun r c ch hr hc hch => ?_⟩)
  rotate_left
  · by_cases hin : inR rx xe ry ye r c
    · rw [pt_pos hin, pt_pos hin, hF]; exact cutN_lt hch
    · rw [pt_neg hin, pt_neg hin]
  have HF := hid hF
  clear hF
  have TA := fun w' => hD.tad hkd w'
  have TA1 := fun w' => (TA w').1
  have TA2 := fun w' => (TA w').2.1
  have TA3 := fun w' => (TA w').2.2.1
  have TA4 := fun w' => (TA w').2.2.2.1
  have TA5 := fun w' => (TA w').2.2.2.2
  have TA6 := fun w' => hS.ta64 w'
  have TA7 := fun w' => hD.nila hkd w'
  obtain ⟨fs, hFs, hMs, hCs⟩ := hS.m64
  obtain ⟨fd, hFd, hMd, hCd⟩ := hD.m64u hkd
  obtain ⟨fp, hFp, hMp, hCp⟩ := hD.mset hkd
  unfold Fn at hFs hFd hFp
  have HCs := hid hCs
  have HCd := hid hCd
  have HCp := hid hCp
  clear hCs hCd hCp
  have HC := hid hC
  have Hem := hid (rct_ne hR)
  have HR := hid hR
  have HP := hid hP
  have HD := hid hD
  have HS := hid hS
  have HK := hid hkd
  have HB := hid hb
  have HX := hid hsx
  have Hop := hid hop
  have Hpm := hid hpm
  have Hn := hid (And.intro n0 (And.intro n1 (And.intro n2 n3)))
  clear hC hR hP hD hS hkd hb hsx hop hpm TA n0 n1 n2 n3
  go_enter Tryz.func42, Tryz.ntmps42
  go_wp2_with fail
  refine (clip0_k HC.out (w0 := w) (gb_alloc (gb_alloc (gb_alloc (gb_refl _ _) _) _) _) (Nat.le_refl _) (by omega) (by omega) (by omega) (by omega) (by omega) HD.out.bd HS.out.bd (cp_start _ _ _ _ _ _ _ _ _)).mono ?_
  rintro e w1 ⟨rfl, hg, ⟨c0, c1, c2, c3, k0, k1, l0, l1, fr, fp, fq⟩⟩
  have z1 : w.heap.size < w1.heap.size := World.block_lt_of_cell? w1 _ c0
  have z2 : w.heap.size + 1 < w1.heap.size := World.block_lt_of_cell? w1 _ k0
  have z3 : w.heap.size + 2 < w1.heap.size := World.block_lt_of_cell? w1 _ l0
  clear fr fp fq
  have Hg := hid hg
  clear hg
  go_wp2_with fail
  refine (empty_c b0 b1 b2 b3 _).mono ?_
  rintro e w2 ⟨rfl, rfl⟩
  rw [Hem.out]
  go_wp2_with fail
  go_quiet (fail)
  go_wp2_with fail
  go_quiet (fail)
  go_wp2_with fail
  refine (pback_c HD.out HS.out (by have := HK.out; omega) Hn.out.1 (by (repeat (first | exact Hg.out | refine gb_drewN ?_ _ | refine gb_drew ?_ | refine gb_alloc ?_ _)))).mono ?_
  rintro e w3 ⟨rfl, hg3⟩
  have HW := hid (gb_trans (gb_drewN (gb_alloc (gb_refl w1 none) (.cells #[.int .i64 b0, .int .i64 b1, .int .i64 b2, .int .i64 b3] 78)) _) hg3)
  have HG3 := hid (gb_trans Hg.out HW.out)
  clear hg3
  have Hc := hid (And.intro ((gb_cell0 HW.out z1).trans c0) (And.intro ((gb_cell0 HW.out z1).trans c1) (And.intro ((gb_cell0 HW.out z1).trans c2) (And.intro ((gb_cell0 HW.out z1).trans c3) (And.intro ((gb_cell0 HW.out z2).trans k0) (And.intro ((gb_cell0 HW.out z2).trans k1) (And.intro ((gb_cell0 HW.out z3).trans l0) ((gb_cell0 HW.out z3).trans l1))))))))
  have hz3 := HW.out.size
  have x1' : w.heap.size < w3.heap.size := by omega
  have x2' : w.heap.size + 1 < w3.heap.size := by omega
  have x3' : w.heap.size + 2 < w3.heap.size := by omega
  clear c0 c1 c2 c3 k0 k1 l0 l1
  obtain ⟨c0, c1, c2, c3, k0, k1, l0, l1⟩ := Hc.out
  obtain ⟨f1, f2, f3, f4, l2', l3', l4', l5'⟩ := HR.out
  obtain ⟨f5, f6, l6', l7'⟩ := HP.out
  obtain ⟨v1, v2, v3, v4, v5, v6⟩ := HB.out
  have m0 : -4000 ≤ b0 ∧ b0 ≤ 4000 ∧ -4000 ≤ b2 ∧ b2 ≤ 4000 := by omega
  have m1 : -4000 ≤ b1 ∧ b1 ≤ 4000 ∧ -4000 ≤ b3 ∧ b3 ≤ 4000 := by omega
  have m2 : -9000000000 ≤ p0 ∧ p0 ≤ 9000000000 ∧ -9000000000 ≤ p1 ∧ p1 ≤ 9000000000 := by
    have := HX.out
    unfold sm at this
    omega
  have m3 : -9000000000 ≤ q0 ∧ q0 ≤ 9000000000 ∧ -9000000000 ≤ q1 ∧ q1 ≤ 9000000000 := by
    obtain ⟨⟨u1, u2, u3, u4, u5, u6, -⟩, -, -, -, u7, u8⟩ := HC.out
    unfold sm at u1 u2 u5 u6
    omega
  obtain ⟨n, hn⟩ : ∃ n : Nat, xe - rx = n := ⟨_, rfl⟩
  obtain ⟨tt, ht⟩ : ∃ tt : Nat, ye - ry = tt := ⟨_, rfl⟩
  have hn' : rx + n = xe := by omega
  have ht' : ry + tt = ye := by omega
  have m4 : b2 = b0 + (n : Int) := by omega
  have m5 : b3 = b1 + (tt : Int) := by omega
  have m6 : n ≤ 128 ∧ tt ≤ 128 := by omega
  have HM := hid (And.intro m4 m5)
  have HE := hid (And.intro f1 (And.intro f2 (And.intro f3 (And.intro f4 (And.intro f5 f6)))))
  have HL := hid (And.intro (And.intro l2' (And.intro l3' (And.intro l4' l5'))) (And.intro l6' l7'))
  have HN := hid (And.intro hn' ht')
  obtain ⟨n0, n1, n2, n3⟩ := Hn.out
  have hlb := HD.out.lt
  have hls := HS.out.lt
  have y1 : w.heap.size ≠ pd := by have := HD.out.pix (by have := HK.out; omega); omega
  have y2 : w.heap.size + 1 ≠ pd := by have := HD.out.pix (by have := HK.out; omega); omega
  have y3 : w.heap.size + 2 ≠ pd := by have := HD.out.pix (by have := HK.out; omega); omega
  clear f1 f2 f3 f4 f5 f6 l2' l3' l4' l5' l6' l7' hn hn' ht ht' z1 z2 z3 hz3 v1 v2 v3 v4
  go_wp2_with fail
  clear TA1 TA2 TA3 TA4 TA5 TA6
  go_loopw [74, 72, 73] (fun y u v wr => ∃ (j : Nat) (a1 a2 a3 : Int), j ≤ tt ∧ a1 = b1 + (j : Int) ∧ a2 = p1 + (j : Int) ∧ a3 = q1 + (j : Int) ∧ y = .int .i64 a1 ∧ u = .int .i64 a2 ∧ v = .int .i64 a3 ∧ w3.grownBy wr (some pd) ∧
       Src wr bd pd dh dw dx0 dy0 (pt (fw rx xe ry j 0) F D) kd td) (fun y _ _ _ => (b3 - intOf y).toNat)
  case atStart =>
    refine ⟨0, b1, p1, q1, by omega, by omega, by omega, by omega, by first | rfl | (congr 1; omega), by first | rfl | (congr 1; omega), by first | rfl | (congr 1; omega), gb_refl _ _, ?_⟩
    rw [pt_no (fun r c => by unfold fw; omega)]
    exact HD.out.kept0 HG3.out
  case round =>
  obtain ⟨j, a1, a2, a3, hj, ha1, ha2, ha3, rfl, rfl, rfl, hgb, hg'⟩ := hrel
  by_cases hlt : j < tt
  · have hy1 : (a1 != b3) = true := by rw [bne_iff_ne]; omega
    have hy1' : (a1 != b1 + (tt : Int)) = true := by rw [bne_iff_ne]; omega
    have hy2 : ¬ (a1 = b1 + (tt : Int)) := by omega
    have c0' := (gb_cell hgb x1' y1).trans c0
    have k0' := (gb_cell hgb x2' y2).trans k0
    have l0' := (gb_cell hgb x3' y3).trans l0
    have HG' := hid hg'
    have Ha := hid (And.intro ha1 (And.intro ha2 ha3))
    have s1 : -9000 ≤ a1 ∧ a1 ≤ 9000 := by omega
    have s2 : -9000009000 ≤ a2 ∧ a2 ≤ 9000009000 ∧ -9000009000 ≤ a3 ∧ a3 ≤ 9000009000 := by omega
    clear ha1 ha2 ha3 hg'
    go_wp2_with fail
    obtain ⟨wo, ho⟩ : ∃ wo : World, wo = wr := ⟨_, rfl⟩
    go_loopw [77, 75, 76] (fun y u v wr => ∃ (k : Nat) (g1 g2 g3 : Int), k ≤ n ∧ g1 = b0 + (k : Int) ∧ g2 = p0 + (k : Int) ∧ g3 = q0 + (k : Int) ∧ y = .int .i64 g1 ∧ u = .int .i64 g2 ∧ v = .int .i64 g3 ∧ w3.grownBy wr (some pd) ∧
       Src wr bd pd dh dw dx0 dy0 (pt (fw rx xe ry j k) F D) kd td) (fun y _ _ _ => (b2 - intOf y).toNat)
    case atStart => exact ⟨0, b0, p0, q0, by omega, by omega, by omega, by omega, by first | rfl | (congr 1; omega), by first | rfl | (congr 1; omega), by first | rfl | (congr 1; omega), hgb, HG'.out⟩
    case round =>
    clear ho wo c0' k0' l0' hgb
    obtain ⟨k, g1, g2, g3, hk, hg1, hg2, hg3, rfl, rfl, rfl, hgr, hgs⟩ := hrel
    have HGR := hid hgr
    have HGS := hid hgs
    have Hh := hid (And.intro hg1 (And.intro hg2 hg3))
    by_cases hlti : k < n
    · have r1 : (g1 != b2) = true := by rw [bne_iff_ne]; omega
      have r1' : (g1 != b0 + (n : Int)) = true := by rw [bne_iff_ne]; omega
      have r2 : ¬ (g1 = b0 + (n : Int)) := by omega
      have r3 : -9000 ≤ g1 ∧ g1 ≤ 9000 := by omega
      have r4 : -9000009000 ≤ g2 ∧ g2 ≤ 9000009000 ∧ -9000009000 ≤ g3 ∧ g3 ≤ 9000009000 := by omega
      have HSr := hid ((HS.out.kept0 HG3.out).kept hgr n1 n2)
      obtain ⟨e1, e2, e3, e4, e5, e6⟩ := HE.out
      obtain ⟨⟨i1, i2, i3, i4⟩, i5, i6⟩ := HL.out
      obtain ⟨i7, i8⟩ := HN.out
      obtain ⟨h1, h2, h3⟩ := Ha.out
      have t1 : g1 - dx0 = ((rx + k : Nat) : Int) := by omega
      have t2 : a1 - dy0 = ((ry + j : Nat) : Int) := by omega
      have t3 : g2 - sx0 = ((sx + k : Nat) : Int) := by omega
      have t4 : a2 - sy0 = ((sy + j : Nat) : Int) := by omega
      have t5 : rx + k < dw ∧ ry + j < dh ∧ sx + k < sw ∧ sy + j < sh := by omega
      have i9 : rx + k < xe := by omega
      have HT := hid (And.intro (And.intro t1 t2) (And.intro (And.intro t3 t4) t5))
      have hFv : F (ry + j) (rx + k) = cutN (sz kd) (px0 kd ks op (D (ry + j) (rx + k)) (S (sy + j) (sx + k))) := by
        rw [HF.out]; dsimp only
        rw [show sy + (ry + j - ry) = sy + j by omega, show sx + (rx + k - rx) = sx + k by omega]
      have HFv := hid hFv
      clear hg1 hg2 hg3 hgs e1 e2 e3 e4 e5 e6 i1 i2 i3 i4 i5 i6 i7 i8 h1 h2 h3 t1 t2 t3 t4 t5 hFv m0 m1 m2 m3 m4 m5 m6 hgr
      by_cases hop : op = 0
      · have o1 : ((op : Int) == 1) = false := by subst hop; rfl
        have hdd : pt (fw rx xe ry j k) F D (ry + j) (rx + k) = D (ry + j) (rx + k) := by
          funext ch; exact pt_neg (by unfold fw; omega) ch
        obtain ⟨dd, hd⟩ : ∃ dd : Nat → Int, cl kd (D (ry + j) (rx + k)) = dd := ⟨_, rfl⟩
        obtain ⟨ss, hs⟩ : ∃ ss : Nat → Int, cl ks (S (sy + j) (sx + k)) = ss := ⟨_, rfl⟩
        have rd : ∀ i, 0 ≤ dd i ∧ dd i ≤ 65535 := fun i => by rw [← hd]; exact cl_range (HD.out.by _ _) i
        have rs : ∀ i, 0 ≤ ss i ∧ ss i ≤ 65535 := fun i => by rw [← hs]; exact cl_range (HS.out.by _ _) i
        have ps : ∀ i, i < 4 → ss i ≤ ss 3 := fun i hi => by
          by_cases e : i = 3
          · rw [e]; exact Int.le_refl _
          · rw [← hs]; exact Hpm.out _ _ i (by omega)
        obtain ⟨v, hv⟩ : ∃ v : Nat → Int, v = fun i => mix0 0 (dd i) (ss i) (ss 3) := ⟨_, rfl⟩
        have hFe : F (ry + j) (rx + k) = cutN (sz kd) (en kd v) := by
          rw [HFv.out, hv, ← hd, ← hs]; unfold px0; rw [hop]
        have hrest : ∀ i, i < 4 → 0 ≤ dd i * (65535 - ss 3) ∧ dd i * (65535 - ss 3) ≤ 65535 * (65535 - ss 3) := fun i _ => rest_le (rd i).1 (rd i).2 (by have := rs 3; omega)
        have hvi : ∀ i, v i = dd i * (65535 - ss 3) / 65535 + ss i := fun i => by rw [hv]; rfl
        have hvr : ∀ i, i < 4 → 0 ≤ v i ∧ v i ≤ 65535 := fun i hi => by
          rw [hvi]; have h1 := hrest i hi; have h2 := ps i hi; have h3 := rs i; have h4 := rs 3; omega
        obtain ⟨P0, hP0⟩ : ∃ P0, dd 0 * (65535 - ss 3) = P0 := ⟨_, rfl⟩
        obtain ⟨P1, hP1⟩ : ∃ P1, dd 1 * (65535 - ss 3) = P1 := ⟨_, rfl⟩
        obtain ⟨P2, hP2⟩ : ∃ P2, dd 2 * (65535 - ss 3) = P2 := ⟨_, rfl⟩
        obtain ⟨P3, hP3⟩ : ∃ P3, dd 3 * (65535 - ss 3) = P3 := ⟨_, rfl⟩
        have b0' := hrest 0 (by omega)
        have b1' := hrest 1 (by omega)
        have b2' := hrest 2 (by omega)
        have b3' := hrest 3 (by omega)
        have v0' := hvi 0
        have v1' := hvi 1
        have v2' := hvi 2
        have v3' := hvi 3
        rw [hP0] at b0' v0'
        rw [hP1] at b1' v1'
        rw [hP2] at b2' v2'
        rw [hP3] at b3' v3'
        have v0' := v0'.symm
        have v1' := v1'.symm
        have v2' := v2'.symm
        have v3' := v3'.symm
        have q0' := rs 0
        have q1' := rs 1
        have q2' := rs 2
        have q3' := rs 3
        have u0 := ps 0 (by omega)
        have u1 := ps 1 (by omega)
        have u2 := ps 2 (by omega)
        have d0 := rd 0
        have d1 := rd 1
        have d2 := rd 2
        have d3 := rd 3
        have yv0 := hvr 0 (by omega)
        have yv1 := hvr 1 (by omega)
        have yv2 := hvr 2 (by omega)
        have yv3 := hvr 3 (by omega)
        have Hv := hid (And.intro hFe hvr)
        have Hop0 := hid hop
        clear hop
        have Hvs := hid (And.intro v0' (And.intro v1' (And.intro v2' v3')))
        have bw0 : P0 / 65535 + ss 0 ≤ 65535 := by omega
        have bw1 : P1 / 65535 + ss 1 ≤ 65535 := by omega
        have bw2 : P2 / 65535 + ss 2 ≤ 65535 := by omega
        have bw3 : P3 / 65535 + ss 3 ≤ 65535 := by omega
        clear v0' v1' v2' v3' yv0 yv1 yv2 yv3
        have Hd := hid hd
        have Hs := hid hs
        clear hd hs rd rs ps hv hFe hrest hvi hvr
        go_wp2_with fail
        refine (HCs.out _ g2 a2 (sy + j) (sx + k) (HSr.out.kept0 (by (repeat (first | exact gb_refl _ _ | refine gb_drewN ?_ _ | refine gb_drew ?_ | refine gb_alloc ?_ _)))) HT.out.2.1.1 HT.out.2.1.2 HT.out.2.2.2.2.1 HT.out.2.2.2.2.2).mono ?_
        rintro e w5 ⟨rfl, hg5⟩
        rw [Hs.out]
        have HG5 := hid (gb_trans (a := wr) (by (repeat (first | exact gb_refl _ _ | refine gb_drewN ?_ _ | refine gb_drew ?_ | refine gb_alloc ?_ _))) hg5)
        clear hg5
        go_wp2_with fail
        refine (HCd.out _ g1 a1 (ry + j) (rx + k) _ (HGS.out.kept0 (gb_trans HG5.out (by (repeat (first | exact gb_refl _ _ | refine gb_drewN ?_ _ | refine gb_drew ?_ | refine gb_alloc ?_ _))))) HT.out.1.1 HT.out.1.2 HT.out.2.2.1 HT.out.2.2.2.1).mono ?_
        rintro e w6 ⟨rfl, hg6⟩
        rw [hdd, Hd.out]
        have z5 : w5.heap.size < w6.heap.size := by have := hg6.size; simp at this; omega
        obtain ⟨cc, ff⟩ := gb_rules hg6
        have cc5 := fun o => cc w5.heap.size o (by simp)
        have HG6 := hid (gb_trans (gb_trans HG5.out (by (repeat (first | exact gb_refl _ _ | refine gb_drewN ?_ _ | refine gb_drew ?_ | refine gb_alloc ?_ _)))) hg6)
        clear hg6 cc ff
        go_wp2_with fail
        rw [Hvs.out.1, Hvs.out.2.1, Hvs.out.2.2.1, Hvs.out.2.2.2]
        refine (HCp.out _ g1 a1 (ry + j) (rx + k) v F D (fw rx xe ry j k) (fw rx xe ry j (k + 1)) (HGS.out.kept0 (gb_trans HG6.out (by (repeat (first | exact gb_refl _ _ | refine gb_drewN ?_ _ | refine gb_drew ?_ | refine gb_alloc ?_ _))))) HT.out.1.1 HT.out.1.2 HT.out.2.2.1 HT.out.2.2.2.1 Hv.out.2 Hv.out.1 (fun r' c' => by unfold fw; omega)).mono ?_
        rintro e w7 ⟨rfl, hg7, hs7⟩
        have HG7 := hid (gb_trans (gb_weak (gb_trans HG6.out (by (repeat (first | exact gb_refl _ _ | refine gb_drewN ?_ _ | refine gb_drew ?_ | refine gb_alloc ?_ _)))) (some pd)) hg7)
        have HS7 := hid hs7
        clear hg7 hs7
        go_wp2_with fail
        go_roundw
        case rel =>
          obtain ⟨y4, y5, y6⟩ := Hh.out
          exact ⟨k + 1, _, _, _, by omega, rfl, rfl, rfl, by first | rfl | (congr 1; push_cast; omega), by first | rfl | (congr 1; push_cast; omega), by first | rfl | (congr 1; push_cast; omega), gb_trans HGR.out HG7.out, HS7.out⟩
        case measure =>
          obtain ⟨y4, y5, y6⟩ := Hh.out
          have y7 := HM.out.1
          simp [intOf]; omega
      · have o1 : ((op : Int) == 1) = true := by have := Hop.out; rw [beq_iff_eq]; omega
        go_wp2_with fail
        go_region_with
          (first
          | (refine (HCs.out _ g2 a2 (sy + j) (sx + k) (HSr.out.kept0 (by (repeat (first | exact gb_refl _ _ | refine gb_drewN ?_ _ | refine gb_drew ?_)))) HT.out.2.1.1 HT.out.2.1.2 HT.out.2.2.2.2.1 HT.out.2.2.2.2.2).mono ?_
             rintro e w5 ⟨rfl, hg5⟩
             have HG5 := hid (gb_trans (a := wr) (by (repeat (first | exact gb_refl _ _ | refine gb_drewN ?_ _ | refine gb_drew ?_))) hg5)
             clear hg5)
          | (refine (HCp.out _ g1 a1 (ry + j) (rx + k) (cl ks (S (sy + j) (sx + k))) F D (fw rx xe ry j k) (fw rx xe ry j (k + 1)) (HGS.out.kept0 HG5.out) HT.out.1.1 HT.out.1.2 HT.out.2.2.1 HT.out.2.2.2.1 (fun i _ => cl_range (HS.out.by _ _) i) (by rw [HFv.out, px0_src hop]) (fun r' c' => by unfold fw; omega)).mono ?_
             rintro e w6 ⟨rfl, hg6, hs6⟩
             have HG6 := hid (gb_trans (gb_weak HG5.out (some pd)) hg6)
             have HS6 := hid hs6
             clear hg6 hs6))
        all_goals (
          go_wp2_with fail
          go_roundw
          case rel =>
            obtain ⟨y4, y5, y6⟩ := Hh.out
            have y7 := HM.out.1
            exact ⟨k + 1, _, _, _, by omega, rfl, rfl, rfl, by first | rfl | (congr 1; push_cast; omega), by first | rfl | (congr 1; push_cast; omega), by first | rfl | (congr 1; push_cast; omega), gb_trans HGR.out HG6.out, HS6.out⟩
          case measure =>
            obtain ⟨y4, y5, y6⟩ := Hh.out
            have y7 := HM.out.1
            simp [intOf]; omega)
    · have hkn : k = n := by omega
      have r1 : (g1 != b2) = false := by rw [bne_eq_false_iff_eq]; omega
      have r1' : (g1 != b0 + (n : Int)) = false := by rw [bne_eq_false_iff_eq]; omega
      clear hg1 hg2 hg3
      go_wp2_with fail
      obtain ⟨h1, h2, h3⟩ := Ha.out
      obtain ⟨i7, i8⟩ := HN.out
      refine ⟨⟨j + 1, _, _, _, by omega, rfl, rfl, rfl, by first | rfl | (congr 1; push_cast; omega), by first | rfl | (congr 1; push_cast; omega), by first | rfl | (congr 1; push_cast; omega), hgr, ?_⟩, by simp [intOf]; omega⟩
      rw [← pt_eq (dn := fw rx xe ry j k) (fun r c => by unfold fw; omega)]
      exact hgs
  · have hy1 : (a1 != b3) = false := by rw [bne_eq_false_iff_eq]; omega
    have hy1' : (a1 != b1 + (tt : Int)) = false := by rw [bne_eq_false_iff_eq]; omega
    clear ha1 ha2 ha3
    go_wp2_with fail
    refine bodyPost_ret (v := .tuple #[]) (by simp [results, Tryz.results42]) rfl ⟨rfl, gb_trans (gb_weak HG3.out _) hgb, ?_⟩
    obtain ⟨i7, i8⟩ := HN.out
    exact pt_turn (hg'.pixi (by have := HK.out; omega)) (fun r c _ _ => by unfold fw inR; omega)
end Go.Proofs.YtgjpohmjkhgpfaaGreat
