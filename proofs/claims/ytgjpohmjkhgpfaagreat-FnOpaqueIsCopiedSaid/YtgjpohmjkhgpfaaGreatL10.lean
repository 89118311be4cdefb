/- The law FnOpaqueIsCopied: its walk. No condition. -/
import Derived.Test.YtgjpohmjkhgpfaaGreatN6
import Derived.Test.YtgjpohmjkhgpfaaGreatLE
import Derived.Test.YtgjpohmjkhgpfaaGreatLF
import Derived.Test.YtgjpohmjkhgpfaaGreatO1
import Derived.Test.YtgjpohmjkhgpfaaGreatPA
import Derived.Test.YtgjpohmjkhgpfaaGreatRV
import Derived.Deep.QuietTactic
import Derived.Test.YtgjpohmjkhgpfaaGreatLC
import Derived.Deep.RegionHeld3
import Derived.Deep.DeepCutAuto
import Derived.Deep.CutBlock
set_option linter.unusedSimpArgs false
set_option linter.unusedVariables false
namespace Go.Proofs.YtgjpohmjkhgpfaaGreat
open Go.RowKit

set_option maxRecDepth 100000 in
set_option maxHeartbeats 8000000 in
theorem target0_c {x0 y0 x1 y1 : Int} {A : Option Addr} {n c : Nat} {p : Nat → Int} (w : World) (h : Rd w A n p) (hp : By p) (hn : n ≤ 2147483647) (hc : n ≤ c) (hc2 : c ≤ 9223372036854775807) :
    Calls Tryz.prog 15 #[vI 0 x0 y0 x1 y1 A n c] w (BoolOut w (VF0 x0 y0 x1 y1 n p)) := by
  have H := hid h
  have HP := hid hp
  clear h hp
  go_enter Tryz.func15, Tryz.ntmps15
  go_wp2_with fail
  refine (valid0_c _ (H.out.kept0 (gb_alloc (gb_refl _ _) _)) HP.out hn hc hc2).mono ?_
  rintro e w1 ⟨b, rfl, hb, hg⟩
  have HB := hid hb
  have HG := hid (gb_trans (gb_alloc (gb_refl w none) _) hg)
  clear hb hg
  go_wp2_with fail
  go_ret
  exact ⟨b, rfl, HB.out, HG.out⟩

theorem geo0_of {x0 y0 x1 y1 : Int} {n : Nat} {p : Nat → Int} (h : VF0 x0 y0 x1 y1 n p) : ∃ hh wd : Nat, Geo 0 x0 y0 x1 y1 n hh wd ∧ n ≤ 65536 ∧ x1 = x0 + wd ∧ y1 = y0 + hh ∧ n = hh * (wd * 4) ∧ wd ≤ 128 ∧ hh ≤ 128 := by
  obtain ⟨⟨h0, h1, h2, h3, h4, h5⟩, h6, -⟩ := h
  obtain ⟨u, hu⟩ := Int.eq_ofNat_of_zero_le (show 0 ≤ x1 - x0 by omega)
  obtain ⟨v, hv⟩ := Int.eq_ofNat_of_zero_le (show 0 ≤ y1 - y0 by omega)
  rw [hu, hv] at h6
  have hn : n = v * (u * 4) := by
    have e : ((v * (u * 4) : Nat) : Int) = (u : Int) * v * 4 := by push_cast; rw [← Int.mul_assoc, Int.mul_comm (v : Int) u]
    omega
  have hb : n ≤ 128 * (128 * 4) := by rw [hn]; exact Nat.mul_le_mul (by omega) (Nat.mul_le_mul (by omega) (Nat.le_refl _))
  exact ⟨v, u, .inr ⟨by omega, by omega, by omega, hn, by omega, by omega, by omega, by omega, by omega, by omega⟩, by omega, by omega, by omega, hn, by omega, by omega⟩
theorem dat0_of {x0 y0 x1 y1 : Int} {n : Nat} {p : Nat → Int} (h : VF0 x0 y0 x1 y1 n p) (hp : By p) (hn : n ≤ 2147483647) : Dat 0 x0 y0 x1 y1 x0 y0 x1 y1 n p := by
  obtain ⟨⟨h0, h1, h2, h3, h4, h5⟩, -⟩ := h
  exact ⟨hp, by omega, by omega, by omega, by unfold sm; omega, by unfold sm; omega, rfl, rfl, rfl, rfl⟩
theorem pm0_of {x0 y0 x1 y1 : Int} {n : Nat} {p : Nat → Int} (h : VF0 x0 y0 x1 y1 n p) (hz : ∀ i, n ≤ i → p i = 0) (hn4 : ∃ m, n = 4 * m) : ∀ j, Pm 0 (fun ch => p (j * sz 0 + ch)) := by
  obtain ⟨m, rfl⟩ := hn4
  intro j i hi
  show p (j * 4 + i) * 257 ≤ p (j * 4 + 3) * 257
  by_cases hj : j < m
  · have := h.2.2 j (by omega)
    rw [Nat.mul_comm j 4]
    have hi' : i = 0 ∨ i = 1 ∨ i = 2 := by omega
    rcases hi' with rfl | rfl | rfl <;> (try simp only [Nat.add_zero]) <;> omega
  · rw [hz _ (by omega), hz _ (by omega)]
    exact Int.le_refl _
theorem c15_kept {w w' : World} {b1 b2 b3 n cd n' cs : Nat} {Xd0 Yd0 Xd1 Yd1 X0 Y0 X1 Y1 q0 q1 q2 q3 : Int} {Ad As : Option Addr} (h : w.cell? ⟨b1, 0, none⟩ = some (.int .i64 0) ∧ w.cell? ⟨b1, 1, none⟩ = some (.int .i64 Xd0) ∧ w.cell? ⟨b1, 2, none⟩ = some (.int .i64 Yd0) ∧ w.cell? ⟨b1, 3, none⟩ = some (.int .i64 Xd1) ∧ w.cell? ⟨b1, 4, none⟩ = some (.int .i64 Yd1) ∧ w.cell? ⟨b1, 5, none⟩ = some (.slice Ad n cd) ∧ w.cell? ⟨b2, 0, none⟩ = some (.int .i64 0) ∧ w.cell? ⟨b2, 1, none⟩ = some (.int .i64 X0) ∧ w.cell? ⟨b2, 2, none⟩ = some (.int .i64 Y0) ∧ w.cell? ⟨b2, 3, none⟩ = some (.int .i64 X1) ∧ w.cell? ⟨b2, 4, none⟩ = some (.int .i64 Y1) ∧ w.cell? ⟨b2, 5, none⟩ = some (.slice As n' cs) ∧ w.cell? ⟨b3, 0, none⟩ = some (.int .i64 q0) ∧ w.cell? ⟨b3, 1, none⟩ = some (.int .i64 q1) ∧ w.cell? ⟨b3, 2, none⟩ = some (.int .i64 q2) ∧ w.cell? ⟨b3, 3, none⟩ = some (.int .i64 q3)) (hg : w.grownBy w' none) : w'.cell? ⟨b1, 0, none⟩ = some (.int .i64 0) ∧ w'.cell? ⟨b1, 1, none⟩ = some (.int .i64 Xd0) ∧ w'.cell? ⟨b1, 2, none⟩ = some (.int .i64 Yd0) ∧ w'.cell? ⟨b1, 3, none⟩ = some (.int .i64 Xd1) ∧ w'.cell? ⟨b1, 4, none⟩ = some (.int .i64 Yd1) ∧ w'.cell? ⟨b1, 5, none⟩ = some (.slice Ad n cd) ∧ w'.cell? ⟨b2, 0, none⟩ = some (.int .i64 0) ∧ w'.cell? ⟨b2, 1, none⟩ = some (.int .i64 X0) ∧ w'.cell? ⟨b2, 2, none⟩ = some (.int .i64 Y0) ∧ w'.cell? ⟨b2, 3, none⟩ = some (.int .i64 X1) ∧ w'.cell? ⟨b2, 4, none⟩ = some (.int .i64 Y1) ∧ w'.cell? ⟨b2, 5, none⟩ = some (.slice As n' cs) ∧ w'.cell? ⟨b3, 0, none⟩ = some (.int .i64 q0) ∧ w'.cell? ⟨b3, 1, none⟩ = some (.int .i64 q1) ∧ w'.cell? ⟨b3, 2, none⟩ = some (.int .i64 q2) ∧ w'.cell? ⟨b3, 3, none⟩ = some (.int .i64 q3) := by
  obtain ⟨a0, a1, a2, a3, a4, a5, a6, a7, a8, a9, a10, a11, a12, a13, a14, a15⟩ := h
  have k := fun {b i : Nat} {v : Value} (hc : w.cell? ⟨b, i, none⟩ = some v) => (gb_cell0 hg (p := ⟨b, i, none⟩) (World.block_lt_of_cell? w _ hc)).trans hc
  exact ⟨k a0, k a1, k a2, k a3, k a4, k a5, k a6, k a7, k a8, k a9, k a10, k a11, k a12, k a13, k a14, k a15⟩
theorem ia_zero {x0 y0 x1 y1 u0 v0 u1 v1 b0 b1 b2 b3 : Int} (h : ia 0 x0 y0 x1 y1 u0 v0 u1 v1 = b0 ∧ ia 1 x0 y0 x1 y1 u0 v0 u1 v1 = b1 ∧ ia 2 x0 y0 x1 y1 u0 v0 u1 v1 = b2 ∧ ia 3 x0 y0 x1 y1 u0 v0 u1 v1 = b3) (he : emp b0 b1 b2 b3 = true) : b0 = 0 ∧ b1 = 0 ∧ b2 = 0 ∧ b3 = 0 := by
  obtain ⟨rfl, rfl, rfl, rfl⟩ := h
  unfold ia at *
  cases h : emp (hi2 x0 u0) (hi2 y0 v0) (lo2 x1 u1) (lo2 y1 v1)
  · rw [h] at he
    simp only [cond_false] at he
    rw [h] at he
    cases he
  · simp only [cond_true]; exact ⟨trivial, trivial, trivial, trivial⟩
def Four (w : World) (b : Nat) (r0 r1 r2 r3 : Int) : Prop := w.cell? ⟨b, 0, none⟩ = some (.int .i64 r0) ∧ w.cell? ⟨b, 1, none⟩ = some (.int .i64 r1) ∧ w.cell? ⟨b, 2, none⟩ = some (.int .i64 r2) ∧ w.cell? ⟨b, 3, none⟩ = some (.int .i64 r3)
theorem Four.kept0 {w w' : World} {b : Nat} {r0 r1 r2 r3 : Int} (h : Four w b r0 r1 r2 r3) (hg : w.grownBy w' none) : Four w' b r0 r1 r2 r3 := by
  obtain ⟨a0, a1, a2, a3⟩ := h
  have k := fun {b i : Nat} {v : Value} (hc : w.cell? ⟨b, i, none⟩ = some v) => (gb_cell0 hg (p := ⟨b, i, none⟩) (World.block_lt_of_cell? w _ hc)).trans hc
  exact ⟨k a0, k a1, k a2, k a3⟩
theorem and1 (x : Int) : ∃ o : Nat, o ≤ 1 ∧ bits .and .i64 x 1 = o := by
  have h : bits .and .i64 x 1 = IntKind.i64.wrap ((BitVec.ofInt 64 x &&& BitVec.ofInt 64 1).toNat : Int) := rfl
  have h1 : (BitVec.ofInt 64 1).toNat = 1 := by decide
  have h2 : (BitVec.ofInt 64 x &&& BitVec.ofInt 64 1).toNat ≤ 1 := by rw [BitVec.toNat_and, h1, Nat.and_one_is_mod]; omega
  refine ⟨_, h2, ?_⟩
  rw [h, IntKind.wrap_i64]
  omega

set_option maxRecDepth 100000 in
set_option maxHeartbeats 8000000 in
theorem opaque_walk {kd ks Xd0 Yd0 Xd1 Yd1 X0 Y0 X1 Y1 r0 r1 r2 r3 px py op : Int} {Ad As : Option Addr} {n n' cd cs : Nat} {p s : Nat → Int} (w : World) (hd : InI w Ad n cd p) (hs : InI w As n' cs s) :
    Calls Tryz.prog 10 #[vI kd Xd0 Yd0 Xd1 Yd1 Ad n cd, vR r0 r1 r2 r3, vI ks X0 Y0 X1 Y1 As n' cs, .int .i64 px, .int .i64 py, .int .i64 op] w fun e w' => e = .returned (.bool true) ∧ w.grownBy w' none := by
  have HD := hid hd
  have HS := hid hs
  clear hd hs
  by_cases hn : n ≤ 2147483647
  · by_cases hn' : n' ≤ 2147483647
    · go_enter Tryz.func10, Tryz.ntmps10
      go_wp2_with fail
      refine (fits_y _ hn).mono ?_
      rintro e w1 ⟨rfl, hg⟩
      have hb0 := box3_kept (bd := w.heap.size) (br := w.heap.size + 1) (bs := w.heap.size + 2) (kd := kd) (Xd0 := Xd0) (Yd0 := Yd0) (Xd1 := Xd1) (Yd1 := Yd1) (Ad := Ad) (n := n) (cd := cd) (r0 := r0) (r1 := r1) (r2 := r2) (r3 := r3) (ks := ks) (X0 := X0) (Y0 := Y0) (X1 := X1) (Y1 := Y1) (As := As) (n' := n') (cs := cs) ⟨by go_simp, by go_simp, by go_simp, by go_simp, by go_simp, by go_simp, by go_simp, by go_simp, by go_simp, by go_simp, by go_simp, by go_simp, by go_simp, by go_simp, by go_simp, by go_simp⟩ hg
      have HB1 := hid hb0
      have HG1 := hid (gb_trans (gb_alloc (gb_alloc (gb_alloc (gb_refl w none) _) _) _) hg)
      clear hb0 hg
      obtain ⟨a0, a1, a2, a3, a4, a5, a6, a7, a8, a9, a10, a11, a12, a13, a14, a15⟩ := HB1.out
      have z1 := World.block_lt_of_cell? w1 _ a0
      have z2 := World.block_lt_of_cell? w1 _ a6
      have z3 := World.block_lt_of_cell? w1 _ a10
      go_wp2_with fail
      refine (fits_y _ hn').mono ?_
      rintro e w2 ⟨rfl, hg⟩
      have hh2 := gb_trans (a := w1) (by (repeat (first | exact gb_refl _ _ | refine gb_drew ?_ | refine gb_alloc ?_ _ | refine gb_setCell ?_ (.inr (by simp <;> omega)) _))) hg
      have HB2 := hid (box3_kept HB1.out hh2)
      have HG2 := hid (gb_trans HG1.out hh2)
      have zz2 := hh2.size
      clear hg hh2 a0 a1 a2 a3 a4 a5 a6 a7 a8 a9 a10 a11 a12 a13 a14 a15
      obtain ⟨a0, a1, a2, a3, a4, a5, a6, a7, a8, a9, a10, a11, a12, a13, a14, a15⟩ := HB2.out
      have z1 := World.block_lt_of_cell? w2 _ a0
      have z2 := World.block_lt_of_cell? w2 _ a6
      have z3 := World.block_lt_of_cell? w2 _ a10
      go_wp2_with fail
      refine (lrect_c r0 r1 r2 r3 _).mono ?_
      rintro e w3 ⟨b, q0, q1, q2, q3, rfl, hb, hg⟩
      have hh3 := gb_trans (a := w2) (by (repeat (first | exact gb_refl _ _ | refine gb_drew ?_ | refine gb_alloc ?_ _ | refine gb_setCell ?_ (.inr (by simp <;> omega)) _))) hg
      have HB3 := hid (box3_kept HB2.out hh3)
      have HG3 := hid (gb_trans HG2.out hh3)
      have zz3 := hh3.size
      clear hg hh3 a0 a1 a2 a3 a4 a5 a6 a7 a8 a9 a10 a11 a12 a13 a14 a15
      obtain ⟨a0, a1, a2, a3, a4, a5, a6, a7, a8, a9, a10, a11, a12, a13, a14, a15⟩ := HB3.out
      have z1 := World.block_lt_of_cell? w3 _ a0
      have z2 := World.block_lt_of_cell? w3 _ a6
      have z3 := World.block_lt_of_cell? w3 _ a10
      cases b
      · go_wp2_with fail
        go_ret
        exact ⟨rfl, gb_trans HG3.out (by (repeat (first | exact gb_refl _ _ | assumption | refine gb_drew ?_ | refine gb_alloc ?_ _ | refine gb_setCell ?_ (.inr (by simp <;> omega)) _)))⟩
      obtain ⟨hr, rfl, rfl, rfl, rfl⟩ := hb rfl
      have HR := hid hr
      clear hr hb
      by_cases hk : kd = 0
      · subst hk
        go_wp2_with fail
        refine (target0_c _ (HD.out.1.kept0 (gb_trans HG3.out (by (repeat (first | exact gb_refl _ _ | assumption | refine gb_drew ?_ | refine gb_alloc ?_ _ | refine gb_setCell ?_ (.inr (by simp <;> omega)) _))))) HD.out.2.1 hn HD.out.2.2.2.1 HD.out.2.2.2.2).mono ?_
        rintro e w4 ⟨b, rfl, hb, hg⟩
        have hh4 := gb_trans (a := w3) (by (repeat (first | exact gb_refl _ _ | refine gb_drew ?_ | refine gb_alloc ?_ _ | refine gb_setCell ?_ (.inr (by simp <;> omega)) _))) hg
        have HB4 := hid (box3_kept HB3.out hh4)
        have HG4 := hid (gb_trans HG3.out hh4)
        have zz4 := hh4.size
        have hg0 := hg
        clear hg hh4 a0 a1 a2 a3 a4 a5 a6 a7 a8 a9 a10 a11 a12 a13 a14 a15
        obtain ⟨a0, a1, a2, a3, a4, a5, a6, a7, a8, a9, a10, a11, a12, a13, a14, a15⟩ := HB4.out
        have z1 := World.block_lt_of_cell? w4 _ a0
        have z2 := World.block_lt_of_cell? w4 _ a6
        have z3 := World.block_lt_of_cell? w4 _ a10
        have hf4 := Four.kept0 (b := w3.heap.size) (r0 := q0) (r1 := q1) (r2 := q2) (r3 := q3) (⟨by go_simp, by go_simp, by go_simp, by go_simp⟩ : Four (w3.alloc (.cells #[.int .i64 q0, .int .i64 q1, .int .i64 q2, .int .i64 q3] 28)) _ _ _ _ _) hg0
        have HF4 := hid hf4
        obtain ⟨f0, f1, f2, f3⟩ := hf4
        have zf := World.block_lt_of_cell? w4 _ f0
        clear hg0
        cases b
        · go_wp2_with fail
          go_ret
          exact ⟨rfl, gb_trans HG4.out (by (repeat (first | exact gb_refl _ _ | assumption | refine gb_drew ?_ | refine gb_alloc ?_ _ | refine gb_setCell ?_ (.inr (by simp <;> omega)) _)))⟩
        have HVD := hid (hb rfl)
        clear hb
        by_cases hk : ks = 0
        · subst hk
          go_wp2_with fail
          refine (valid0_c _ (HS.out.1.kept0 (gb_trans HG4.out (by (repeat (first | exact gb_refl _ _ | assumption | refine gb_drew ?_ | refine gb_alloc ?_ _ | refine gb_setCell ?_ (.inr (by simp <;> omega)) _))))) HS.out.2.1 hn' HS.out.2.2.2.1 HS.out.2.2.2.2).mono ?_
          rintro e w5 ⟨b, rfl, hb, hg⟩
          have hh5 := gb_trans (a := w4) (by (repeat (first | exact gb_refl _ _ | refine gb_drew ?_ | refine gb_alloc ?_ _ | refine gb_setCell ?_ (.inr (by simp <;> omega)) _))) hg
          have HB5 := hid (box3_kept HB4.out hh5)
          have HG5 := hid (gb_trans HG4.out hh5)
          have zz5 := hh5.size
          have hg0 := hh5
          clear hg hh5 a0 a1 a2 a3 a4 a5 a6 a7 a8 a9 a10 a11 a12 a13 a14 a15
          obtain ⟨a0, a1, a2, a3, a4, a5, a6, a7, a8, a9, a10, a11, a12, a13, a14, a15⟩ := HB5.out
          have z1 := World.block_lt_of_cell? w5 _ a0
          have z2 := World.block_lt_of_cell? w5 _ a6
          have z3 := World.block_lt_of_cell? w5 _ a10
          have hf5 := HF4.out.kept0 hg0
          have HF5 := hid hf5
          clear f0 f1 f2 f3 zf hg0
          obtain ⟨f0, f1, f2, f3⟩ := hf5
          have zf := World.block_lt_of_cell? w5 _ f0
          cases b
          · go_wp2_with fail
            go_ret
            exact ⟨rfl, gb_trans HG5.out (by (repeat (first | exact gb_refl _ _ | assumption | refine gb_drew ?_ | refine gb_alloc ?_ _ | refine gb_setCell ?_ (.inr (by simp <;> omega)) _)))⟩
          have HVS := hid (hb rfl)
          clear hb
          go_wp2_with fail
          refine (fine_c (n := 2) (l := fun i => if i = 0 then px else py) _ (fun i hi => ?_) (by omega)).mono ?_
          · have hi' : i = 0 ∨ i = 1 := by omega
            rcases hi' with rfl | rfl <;> go_simp
          rintro e w6 ⟨⟨b, rfl, hb⟩, rfl⟩
          cases b
          · go_wp2_with fail
            go_ret
            exact ⟨rfl, gb_trans HG5.out (by (repeat (first | exact gb_refl _ _ | assumption | refine gb_drew ?_ | refine gb_alloc ?_ _ | refine gb_setCell ?_ (.inr (by simp <;> omega)) _)))⟩
          have hx : nr px := hb rfl 0 (by omega)
          have hy : nr py := hb rfl 1 (by omega)
          have HXY := hid (And.intro hx hy)
          clear hb hx hy
          obtain ⟨o, ho, hand⟩ := and1 op
          go_wp2_with fail
          go_loop [15] (fun u => ∃ j : Nat, 4 * j ≤ n' + 4 ∧ u = .int .i64 ((4 * j + 3 : Nat) : Int) ∧ (o = 0 → ∀ i, i < j → s (4 * i + 3) = 255)) (fun u => n' + 7 - (intOf u).toNat)
          case atStart => exact ⟨0, by omega, rfl, fun _ i hi => absurd hi (by omega)⟩
          case round =>
          obtain ⟨j, hj, rfl, hl⟩ := hrel
          have HL := hid hl
          clear hl
          by_cases hlt : 4 * j + 3 < n'
          · have ho' : o = 0 ∨ o = 1 := by omega
            obtain ⟨a, hA, hb, hca⟩ := HS.out.1 (by omega)
            subst hA
            have k0 : w5.cell? (a.add (4 * j + 3)) = some (.int .u8 (s (4 * j + 3))) := (gb_cell0 HG5.out (by rw [add_block]; exact hb)).trans (hca _ hlt)
            have kb : a.block < w5.heap.size := Nat.lt_of_lt_of_le hb HG5.out.size
            have ea : a.add (4 * j + 3) = ⟨a.block, a.off + (4 * j + 3), none⟩ := by unfold Addr.add; rw [if_neg (by omega)]
            rw [ea] at k0
            clear hca hb ea
            rcases ho' with rfl | rfl
            · by_cases hv : s (4 * j + 3) = 255
              · have hvb : (s (4 * j + 3) != 255) = false := by rw [bne_eq_false_iff_eq]; exact hv
                have Hv := hid hv
                clear hv
                go_wp2
                go_round
                case rel =>
                  refine ⟨j + 1, by omega, by go_num, fun _ i hi => ?_⟩
                  by_cases e : i < j
                  · exact HL.out rfl i e
                  · obtain rfl : i = j := by omega
                    exact Hv.out
                case measure => simp [intOf]; omega
              · have hvb : (s (4 * j + 3) != 255) = true := by rw [bne_iff_ne]; exact hv
                go_wp2
                go_ret
                exact ⟨rfl, gb_trans HG5.out (by (repeat (first | exact gb_refl _ _ | assumption | refine gb_drew ?_ | refine gb_alloc ?_ _ | refine gb_setCell ?_ (.inr (by simp <;> omega)) _)))⟩
            · go_wp2
              go_round
              case rel => exact ⟨j + 1, by omega, by go_num, fun h => absurd h (by decide)⟩
              case measure => simp [intOf]; omega
          · have HO : Hid (o = 0 → ∀ i, 4 * i + 3 < n' → s (4 * i + 3) = 255) := hid (fun h i hi => HL.out h i (by omega))
            clear HL
            obtain ⟨dh, dw, GD, gn, gx, gy, gm, gw, gh⟩ := geo0_of HVD.out
            obtain ⟨sh, sw, GS, tn, tx, ty, tm, tw, th⟩ := geo0_of HVS.out
            have HGD := hid (And.intro GD (And.intro gx (And.intro gy gm)))
            have HGS := hid (And.intro GS (And.intro tx (And.intro ty tm)))
            have PM := hid (pm0_of HVS.out HS.out.2.2.1 ⟨sh * sw, by rw [tm, Nat.mul_comm 4, Nat.mul_assoc]⟩)
            clear GD gx gy gm GS tx ty tm
            go_wp2_with fail
            refine (idraw_of (q := resB 0 dw (In0 q0 q1 q2 q3 px py Xd0 Yd0 X0 Y0 sh sw) (fun r c => px0 0 0 o (toP dw (sz 0) p r c) (srcAt 0 sw s q0 q1 px py Xd0 Yd0 X0 Y0 r c)) p) (kd := 0) (ks := 0) (.inl rfl) (HD.out.1.kept0 (gb_trans HG5.out (by (repeat (first | exact gb_refl _ _ | assumption | refine gb_drew ?_ | refine gb_alloc ?_ _ | refine gb_setCell ?_ (.inr (by simp <;> omega)) _))))) (HS.out.1.kept0 (gb_trans HG5.out (by (repeat (first | exact gb_refl _ _ | assumption | refine gb_drew ?_ | refine gb_alloc ?_ _ | refine gb_setCell ?_ (.inr (by simp <;> omega)) _))))) (dat0_of HVD.out HD.out.2.1 hn) (dat0_of HVS.out HS.out.2.1 hn')
              (fun w' B B' c c' b b' A A' td ts h1 h2 h3 => mdm_0_0 ho h1 h2 HGD.out.1 HGS.out.1 HD.out.2.1 HS.out.2.1 PM.out h3 (by have := HR.out.1; unfold nr at this; unfold sm; omega) (by have := HR.out.2.1; unfold nr at this; unfold sm; omega) (by have := HXY.out.1; unfold nr at this; unfold sm; omega) (by have := HXY.out.2; unfold nr at this; unfold sm; omega)
                (by have h1 := HXY.out.1; have h2 := HR.out.1; unfold nr at h1 h2; unfold sm; omega) (by have h1 := HXY.out.2; have h2 := HR.out.2.1; unfold nr at h1 h2; unfold sm; omega))).mono ?_
            rintro e w6 ⟨A6, c6, rfl, ho6, hg⟩
            have hh6 := gb_trans (a := w5) (by (repeat (first | exact gb_refl _ _ | refine gb_drew ?_ | refine gb_alloc ?_ _ | refine gb_setCell ?_ (.inr (by simp <;> omega)) _))) hg
            have HB6 := hid (box3_kept HB5.out hh6)
            have HG6 := hid (gb_trans HG5.out hh6)
            have hf6 := HF5.out.kept0 hh6
            have HF6 := hid hf6
            have HO6 := hid ho6
            have zz6 := hh6.size
            clear hg hh6 f0 f1 f2 f3 zf ho6 a0 a1 a2 a3 a4 a5 a6 a7 a8 a9 a10 a11 a12 a13 a14 a15
            obtain ⟨a0, a1, a2, a3, a4, a5, a6, a7, a8, a9, a10, a11, a12, a13, a14, a15⟩ := HB6.out
            obtain ⟨f0, f1, f2, f3⟩ := hf6
            have z1 := World.block_lt_of_cell? w6 _ a0
            have z2 := World.block_lt_of_cell? w6 _ a6
            have z3 := World.block_lt_of_cell? w6 _ a10
            have zf := World.block_lt_of_cell? w6 _ f0
            obtain ⟨b0, b1, b2, b3, p0, p1, k0, k1, hC⟩ : ∃ b0 b1 b2 b3 p0 p1 k0 k1, Cl0 q0 q1 q2 q3 px py 0 0 Xd0 Yd0 Xd1 Yd1 X0 Y0 X1 Y1 b0 b1 b2 b3 p0 p1 k0 k1 := by
              obtain ⟨hr0, hr1, hr2, hr3⟩ := HR.out
              obtain ⟨hx, hy⟩ := HXY.out
              unfold nr at hr0 hr1 hr2 hr3 hx hy
              obtain ⟨⟨v0, v1, v2, v3, v4, v5⟩, -⟩ := HVD.out
              obtain ⟨⟨u0, u1, u2, u3, u4, u5⟩, -⟩ := HVS.out
              exact cl0_ex (by unfold sm; omega) (by unfold sm; omega) (by unfold sm; omega) (by unfold sm; omega) (by unfold sm; omega) (by unfold sm; omega) (by unfold sm; omega) (by unfold sm; omega) (by unfold sm; omega) (by unfold sm; omega) (by unfold sm; omega) (by unfold sm; omega) (by omega) (by omega) (by omega) (by omega)
            have HC := hid hC
            clear hC
            have HS6 := hid (And.intro a0 (And.intro a1 (And.intro a2 (And.intro a3 (And.intro a4 (And.intro a5 (And.intro a10 (And.intro a11 (And.intro a12 (And.intro a13 (And.intro a14 (And.intro a15 (And.intro f0 (And.intro f1 (And.intro f2 f3)))))))))))))))
            go_upto_region 15 with fail
            clear f0 f1 f2 f3 zf a0 a1 a2 a3 a4 a5 a6 a7 a8 a9 a10 a11 a12 a13 a14 a15 z1 z2 z3
            refine wp_region_inv (JV w6 [some (vI 0 Xd0 Yd0 Xd1 Yd1 Ad n cd), some (vR Xd0 Yd0 Xd1 Yd1), some (vR q0 q1 q2 q3), some (vI 0 X0 Y0 X1 Y1 As n' cs), some (vR X0 Y0 X1 Y1), some (.int .i64 px), some (.int .i64 py), some (vR 0 0 0 0), some (.tuple #[vR b0 b1 b2 b3, vP p0 p1, vP k0 k1]), some (.tuple #[vR b0 b1 b2 b3, vP p0 p1, vP k0 k1]), some (vR b0 b1 b2 b3), some (vP p0 p1), some (vP k0 k1), none, none, none, none, none, none] [(13, 16, [.int .i64 b0, .int .i64 b1, .int .i64 b2, .int .i64 b3]), (14, 17, [.int .i64 p0, .int .i64 p1]), (15, 18, [.int .i64 k0, .int .i64 k1])]) (fun _ => undef) (by kernel_rfl) (by kernel_rfl) [(0, 99), (1, 100), (2, 101), (3, 102), (4, 103), (5, 104), (6, 105), (7, 106), (8, 107), (9, 98), (10, 108), (11, 109), (12, 110), (13, 17), (14, 18), (15, 19)] (by kernel_rfl) (JV.start (by (repeat (first | exact gb_refl _ _ | refine gb_drew ?_ | refine gb_drewN ?_ _)))) ?_ ?_
            · clear HD HS HVD HVS HGD HGS PM HO HXY HR HB1 HB2 HB3 HB4 HB5 HB6 HG1 HG2 HG3 HG4 HG5 HG6 HF4 HF5 HF6 HO6 hn hn' ho hand
              refine Steps'.cons [] (by kernel_rfl) ?_ (Steps'.cons [(0, 99)] (by kernel_rfl) ?_ (Steps'.cons [] (by kernel_rfl) ?_ (Steps'.cons [] (by kernel_rfl) ?_ (Steps'.cons [(3, 102)] (by kernel_rfl) ?_ (Steps'.cons [] (by kernel_rfl) ?_ (Steps'.cons [] (by kernel_rfl) ?_ (Steps'.cons [] (by kernel_rfl) ?_ (Steps'.cons [(1, 100), (2, 101), (4, 103), (5, 104), (6, 105), (7, 106)] (by kernel_rfl) ?_ (Steps'.cons [(8, 107)] (by kernel_rfl) ?_ (Steps'.cons [(9, 98)] (by kernel_rfl) ?_ (Steps'.cons [(9, 98)] (by kernel_rfl) ?_ (Steps'.cons [(9, 98)] (by kernel_rfl) ?_ (Steps'.cons [] (by kernel_rfl) ?_ (Steps'.cons [] (by kernel_rfl) ?_ (Steps'.cons [] (by kernel_rfl) ?_ (Steps'.cons [(10, 108), (13, 17)] (by kernel_rfl) ?_ (Steps'.cons [(11, 109), (14, 18)] (by kernel_rfl) ?_ (Steps'.cons [(12, 110), (15, 19)] (by kernel_rfl) ?_ (Steps'.nil)))))))))))))))))))
              · intro l t w7 hJ hl hd bb hbb K hK
                obtain ⟨a0, a1, a2, a3, a4, a5, a10, a11, a12, a13, a14, a15, f0, f1, f2, f3⟩ := c15_kept HS6.out hJ.gb
                simp only [puts, Act.put, List.setIfInBounds_toArray, List.set_cons_zero, List.set_cons_succ] at hbb
                subst hbb
                go_simp
                exact hK.out _ _ (hJ.pure (gb_refl _ _) rfl rfl)
              · intro l t w7 hJ hl hd bb hbb K hK
                have e0 := hJ.val 0 _ rfl (hd 0 (by kernel_rfl))
                simp only [puts, Act.put, List.setIfInBounds_toArray, List.set_cons_zero, List.set_cons_succ] at hbb
                rw [e0] at hbb
                subst hbb
                go_simp
                refine (sbounds_c 0 Xd0 Yd0 Xd1 Yd1 Ad n cd _).mono ?_
                rintro e w8 ⟨he, hg⟩
                have he : e = .returned (vR Xd0 Yd0 Xd1 Yd1) := he
                subst he
                exact hK.out _ _ (hJ.pure hg rfl rfl)
              · intro l t w7 hJ hl hd bb hbb K hK
                obtain ⟨a0, a1, a2, a3, a4, a5, a10, a11, a12, a13, a14, a15, f0, f1, f2, f3⟩ := c15_kept HS6.out hJ.gb
                simp only [puts, Act.put, List.setIfInBounds_toArray, List.set_cons_zero, List.set_cons_succ] at hbb
                subst hbb
                go_simp
                exact hK.out _ _ (hJ.pure (gb_refl _ _) rfl rfl)
              · intro l t w7 hJ hl hd bb hbb K hK
                obtain ⟨a0, a1, a2, a3, a4, a5, a10, a11, a12, a13, a14, a15, f0, f1, f2, f3⟩ := c15_kept HS6.out hJ.gb
                simp only [puts, Act.put, List.setIfInBounds_toArray, List.set_cons_zero, List.set_cons_succ] at hbb
                subst hbb
                go_simp
                exact hK.out _ _ (hJ.pure (gb_refl _ _) rfl rfl)
              · intro l t w7 hJ hl hd bb hbb K hK
                have e3 := hJ.val 3 _ rfl (hd 3 (by kernel_rfl))
                simp only [puts, Act.put, List.setIfInBounds_toArray, List.set_cons_zero, List.set_cons_succ] at hbb
                rw [e3] at hbb
                subst hbb
                go_simp
                refine (sbounds_c 0 X0 Y0 X1 Y1 As n' cs _).mono ?_
                rintro e w8 ⟨he, hg⟩
                have he : e = .returned (vR X0 Y0 X1 Y1) := he
                subst he
                exact hK.out _ _ (hJ.pure hg rfl rfl)
              · intro l t w7 hJ hl hd bb hbb K hK
                simp only [puts, Act.put, List.setIfInBounds_toArray, List.set_cons_zero, List.set_cons_succ] at hbb
                subst hbb
                go_simp
                exact hK.out _ _ (hJ.pure (gb_refl _ _) rfl rfl)
              · intro l t w7 hJ hl hd bb hbb K hK
                simp only [puts, Act.put, List.setIfInBounds_toArray, List.set_cons_zero, List.set_cons_succ] at hbb
                subst hbb
                go_simp
                exact hK.out _ _ (hJ.pure (gb_refl _ _) rfl rfl)
              · intro l t w7 hJ hl hd bb hbb K hK
                simp only [puts, Act.put, List.setIfInBounds_toArray, List.set_cons_zero, List.set_cons_succ] at hbb
                subst hbb
                go_simp
                exact hK.out _ _ (hJ.pure (gb_refl _ _) rfl rfl)
              · intro l t w7 hJ hl hd bb hbb K hK
                have e1 := hJ.val 1 _ rfl (hd 1 (by kernel_rfl))
                have e2 := hJ.val 2 _ rfl (hd 2 (by kernel_rfl))
                have e4 := hJ.val 4 _ rfl (hd 4 (by kernel_rfl))
                have e5 := hJ.val 5 _ rfl (hd 5 (by kernel_rfl))
                have e6 := hJ.val 6 _ rfl (hd 6 (by kernel_rfl))
                have e7 := hJ.val 7 _ rfl (hd 7 (by kernel_rfl))
                simp only [puts, Act.put, List.setIfInBounds_toArray, List.set_cons_zero, List.set_cons_succ] at hbb
                rw [e1] at hbb
                rw [e2] at hbb
                rw [e4] at hbb
                rw [e5] at hbb
                rw [e6] at hbb
                rw [e7] at hbb
                subst hbb
                go_simp
                refine (sclip0_c _ HC.out).mono ?_
                rintro e w8 ⟨rfl, hg⟩
                exact hK.out _ _ (hJ.pure hg rfl rfl)
              · intro l t w7 hJ hl hd bb hbb K hK
                have e8 := hJ.val 8 _ rfl (hd 8 (by kernel_rfl))
                simp only [puts, Act.put, List.setIfInBounds_toArray, List.set_cons_zero, List.set_cons_succ] at hbb
                rw [e8] at hbb
                subst hbb
                go_simp
                exact hK.out _ _ (hJ.pure (gb_refl _ _) rfl rfl)
              · intro l t w7 hJ hl hd bb hbb K hK
                have e9 := hJ.val 9 _ rfl (hd 9 (by kernel_rfl))
                simp only [puts, Act.put, List.setIfInBounds_toArray, List.set_cons_zero, List.set_cons_succ] at hbb
                rw [e9] at hbb
                subst hbb
                go_simp
                exact hK.out _ _ (hJ.pure (gb_refl _ _) rfl rfl)
              · intro l t w7 hJ hl hd bb hbb K hK
                have e9 := hJ.val 9 _ rfl (hd 9 (by kernel_rfl))
                simp only [puts, Act.put, List.setIfInBounds_toArray, List.set_cons_zero, List.set_cons_succ] at hbb
                rw [e9] at hbb
                subst hbb
                go_simp
                exact hK.out _ _ (hJ.pure (gb_refl _ _) rfl rfl)
              · intro l t w7 hJ hl hd bb hbb K hK
                have e9 := hJ.val 9 _ rfl (hd 9 (by kernel_rfl))
                simp only [puts, Act.put, List.setIfInBounds_toArray, List.set_cons_zero, List.set_cons_succ] at hbb
                rw [e9] at hbb
                subst hbb
                go_simp
                exact hK.out _ _ (hJ.pure (gb_refl _ _) rfl rfl)
              · intro l t w7 hJ hl hd bb hbb K hK
                simp only [puts, Act.put, List.setIfInBounds_toArray, List.set_cons_zero, List.set_cons_succ] at hbb
                subst hbb
                go_simp
                exact hK.out _ _ (hJ.alloc (vsOK3 rfl) (C := #[.int .i64 0, .int .i64 0, .int .i64 0, .int .i64 0]) (s := 16) (vals := [.int .i64 b0, .int .i64 b1, .int .i64 b2, .int .i64 b3]) (by simp) rfl hl rfl rfl)
              · intro l t w7 hJ hl hd bb hbb K hK
                simp only [puts, Act.put, List.setIfInBounds_toArray, List.set_cons_zero, List.set_cons_succ] at hbb
                subst hbb
                go_simp
                exact hK.out _ _ (hJ.alloc (vsOK3 rfl) (C := #[.int .i64 0, .int .i64 0]) (s := 17) (vals := [.int .i64 p0, .int .i64 p1]) (by simp) rfl hl rfl rfl)
              · intro l t w7 hJ hl hd bb hbb K hK
                simp only [puts, Act.put, List.setIfInBounds_toArray, List.set_cons_zero, List.set_cons_succ] at hbb
                subst hbb
                go_simp
                exact hK.out _ _ (hJ.alloc (vsOK3 rfl) (C := #[.int .i64 0, .int .i64 0]) (s := 18) (vals := [.int .i64 k0, .int .i64 k1]) (by simp) rfl hl rfl rfl)
              · intro l t w7 hJ hl hd bb hbb K hK
                have e10 := hJ.val 10 _ rfl (hd 10 (by kernel_rfl))
                obtain ⟨g, eg, -, -, hc⟩ := hJ.open (a := 13) (s := 16) (vals := [.int .i64 b0, .int .i64 b1, .int .i64 b2, .int .i64 b3]) (by simp) (hd 13 (by kernel_rfl))
                obtain ⟨⟨u0, c0⟩, z0⟩ := hc 0 (by simp)
                obtain ⟨⟨u1, c1⟩, z1⟩ := hc 1 (by simp)
                obtain ⟨⟨u2, c2⟩, z2⟩ := hc 2 (by simp)
                obtain ⟨⟨u3, c3⟩, z3⟩ := hc 3 (by simp)
                simp only [puts, Act.put, List.setIfInBounds_toArray, List.set_cons_zero, List.set_cons_succ] at hbb
                rw [e10] at hbb
                rw [eg] at hbb
                subst hbb
                go_simp
                obtain ⟨q1, q2, q3⟩ := st4 c0 c1 c2 c3
                exact hK.out undef _ (hJ.store (u := undef) (vsOK3 rfl) (a := 13) (vals := [.int .i64 b0, .int .i64 b1, .int .i64 b2, .int .i64 b3]) (by simp) rfl (hd 13 (by kernel_rfl)) eg q1 q2 q3)
              · intro l t w7 hJ hl hd bb hbb K hK
                have e11 := hJ.val 11 _ rfl (hd 11 (by kernel_rfl))
                obtain ⟨g, eg, -, -, hc⟩ := hJ.open (a := 14) (s := 17) (vals := [.int .i64 p0, .int .i64 p1]) (by simp) (hd 14 (by kernel_rfl))
                obtain ⟨⟨u0, c0⟩, z0⟩ := hc 0 (by simp)
                obtain ⟨⟨u1, c1⟩, z1⟩ := hc 1 (by simp)
                simp only [puts, Act.put, List.setIfInBounds_toArray, List.set_cons_zero, List.set_cons_succ] at hbb
                rw [e11] at hbb
                rw [eg] at hbb
                subst hbb
                go_simp
                obtain ⟨q1, q2, q3⟩ := st2 c0 c1
                exact hK.out undef _ (hJ.store (u := undef) (vsOK3 rfl) (a := 14) (vals := [.int .i64 p0, .int .i64 p1]) (by simp) rfl (hd 14 (by kernel_rfl)) eg q1 q2 q3)
              · intro l t w7 hJ hl hd bb hbb K hK
                have e12 := hJ.val 12 _ rfl (hd 12 (by kernel_rfl))
                obtain ⟨g, eg, -, -, hc⟩ := hJ.open (a := 15) (s := 18) (vals := [.int .i64 k0, .int .i64 k1]) (by simp) (hd 15 (by kernel_rfl))
                obtain ⟨⟨u0, c0⟩, z0⟩ := hc 0 (by simp)
                obtain ⟨⟨u1, c1⟩, z1⟩ := hc 1 (by simp)
                simp only [puts, Act.put, List.setIfInBounds_toArray, List.set_cons_zero, List.set_cons_succ] at hbb
                rw [e12] at hbb
                rw [eg] at hbb
                subst hbb
                go_simp
                obtain ⟨q1, q2, q3⟩ := st2 c0 c1
                exact hK.out undef _ (hJ.store (u := undef) (vsOK3 rfl) (a := 15) (vals := [.int .i64 k0, .int .i64 k1]) (by simp) rfl (hd 15 (by kernel_rfl)) eg q1 q2 q3)
            intro l t wc hJ hl
            obtain ⟨g, e13, -, -, hgc⟩ := hJ.var (a := 13) (s := 16) (vals := [.int .i64 b0, .int .i64 b1, .int .i64 b2, .int .i64 b3]) (by simp) (hl 13 (by decide)) (hl 16 (by decide))
            obtain ⟨h, e14, -, -, hhc⟩ := hJ.var (a := 14) (s := 17) (vals := [.int .i64 p0, .int .i64 p1]) (by simp) (hl 14 (by decide)) (hl 17 (by decide))
            obtain ⟨i9, e15, -, -, -⟩ := hJ.var (a := 15) (s := 18) (vals := [.int .i64 k0, .int .i64 k1]) (by simp) (hl 15 (by decide)) (hl 18 (by decide))
            have hgw := hJ.gb
            have G0 := hgc 0 _ rfl
            have G1 := hgc 1 _ rfl
            have G2 := hgc 2 _ rfl
            have G3 := hgc 3 _ rfl
            have H0 := hhc 0 _ rfl
            have H1 := hhc 1 _ rfl
            clear hJ hl hgc hhc
            simp only [puts, Act.put, List.setIfInBounds_toArray, List.set_cons_zero, List.set_cons_succ]
            rw [e13, e14, e15]
            clear e13 e14 e15
            have HBc := hid (box3_kept HB6.out hgw)
            have HGc := hid (gb_trans HG6.out hgw)
            have HOc := hid (HO6.out.kept0 hgw)
            have HSc := hid (HS.out.1.kept0 HGc.out)
            clear hgw
            obtain ⟨a0, a1, a2, a3, a4, a5, a6, a7, a8, a9, a10, a11, a12, a13, a14, a15⟩ := HBc.out
            have HGG := hid (And.intro G0 (And.intro G1 (And.intro G2 (And.intro G3 (And.intro H0 H1)))))
            have kz1 := World.block_lt_of_cell? wc _ a0
            have kz2 := World.block_lt_of_cell? wc _ a10
            have kg := World.block_lt_of_cell? wc _ G0
            have kh := World.block_lt_of_cell? wc _ H0
            have sb : -2000000000 ≤ b0 ∧ b0 ≤ 2000000000 ∧ -2000000000 ≤ b1 ∧ b1 ≤ 2000000000 := by
              have := HC.out.1.2.2.2.2.2.2.2.2.2.2.2.2
              unfold sm at this; omega
            go_wp2_with fail
            go_loopw [20] (fun u wr => ∃ y : Int, b1 ≤ y ∧ u = .int .i64 y ∧ wc.grownBy wr none) (fun u _ => (b3 - intOf u).toNat)
            case atStart => exact ⟨b1, by omega, rfl, gb_refl _ _⟩
            case round =>
            obtain ⟨y, hy, rfl, hgr⟩ := hrel
            have HR1 := hid hgr
            clear hgr
            have G0' := (gb_cell0 HR1.out kg).trans G0
            have G1' := (gb_cell0 HR1.out kg).trans G1
            have G2' := (gb_cell0 HR1.out kg).trans G2
            have G3' := (gb_cell0 HR1.out kg).trans G3
            by_cases hlt : y < b3
            · go_wp2_with fail
              obtain ⟨wo, hwo⟩ : ∃ wo : World, wo = wr := ⟨_, rfl⟩
              go_loopw [21] (fun u wr => ∃ x : Int, b0 ≤ x ∧ u = .int .i64 x ∧ wc.grownBy wr none) (fun u _ => (b2 - intOf u).toNat)
              case atStart => exact ⟨b0, by omega, rfl, HR1.out⟩
              case round =>
              clear hwo wo G0' G1' G2' G3' HR1
              obtain ⟨x, hx, rfl, hgr⟩ := hrel
              have HR1 := hid hgr
              clear hgr
              have G0' := (gb_cell0 HR1.out kg).trans G0
              have G1' := (gb_cell0 HR1.out kg).trans G1
              have G2' := (gb_cell0 HR1.out kg).trans G2
              have G3' := (gb_cell0 HR1.out kg).trans G3
              have H0' := (gb_cell0 HR1.out kh).trans H0
              have H1' := (gb_cell0 HR1.out kh).trans H1
              by_cases hlx : x < b2
              · obtain ⟨rx, ry, xe, ye, sx, sy, hRct, hPlc, hI, hat⟩ := cl0_geo (dh := dh) (dw := dw) (sh := sh) (sw := sw) (by have := HC.out; rw [HGD.out.2.1, HGD.out.2.2.1, HGS.out.2.1, HGS.out.2.2.1] at this; exact this) (emp_f.2 ⟨by omega, by omega⟩)
                obtain ⟨e1, e2, e3, e4, l1, l2, l3, l4⟩ := hRct
                obtain ⟨e5, e6, l5, l6⟩ := hPlc
                obtain ⟨r, hr⟩ := Int.eq_ofNat_of_zero_le (show 0 ≤ y - Yd0 by omega)
                obtain ⟨c, hcc⟩ := Int.eq_ofNat_of_zero_le (show 0 ≤ x - Xd0 by omega)
                have hin : inR rx xe ry ye r c := by unfold inR; omega
                have hrd : r < dh := by omega
                have hcd' : c < dw := by omega
                obtain ⟨sr, hsr⟩ : ∃ sr : Nat, sy + (r - ry) = sr := ⟨_, rfl⟩
                obtain ⟨sc, hsc⟩ : ∃ sc : Nat, sx + (c - rx) = sc := ⟨_, rfl⟩
                have hsr2 : sr < sh := by omega
                have hsc2 : sc < sw := by omega
                obtain ⟨t1, t2⟩ := hat r c hin
                have hI2 := (hI r c hrd hcd').1 hin
                obtain ⟨⟨vd0, vd1, vd2, vd3, vd4, vd5⟩, -⟩ := HVD.out
                obtain ⟨⟨vs0, vs1, vs2, vs3, vs4, vs5⟩, -⟩ := HVS.out
                have y1 : y - Yd0 = (r : Int) := hr
                have y2 : Xd1 - Xd0 = (dw : Int) := by have := HGD.out.2.1; omega
                obtain ⟨m1, hm1⟩ : ∃ m1 : Nat, r * dw = m1 := ⟨_, rfl⟩
                have f1 : (r : Int) * dw = m1 := by rw [← hm1]; push_cast; rfl
                have y3 : p1 + y - b1 - Y0 = (sr : Int) := by omega
                have y4 : X1 - X0 = (sw : Int) := by have := HGS.out.2.1; omega
                obtain ⟨m2, hm2⟩ : ∃ m2 : Nat, sr * sw = m2 := ⟨_, rfl⟩
                have f2 : (sr : Int) * sw = m2 := by rw [← hm2]; push_cast; rfl
                obtain ⟨d1, hd1⟩ : ∃ d1 : Nat, m1 + c = d1 := ⟨_, rfl⟩
                have y5 : (m1 : Int) + x - Xd0 = (d1 : Int) := by omega
                obtain ⟨d2, hd2⟩ : ∃ d2 : Nat, m2 + sc = d2 := ⟨_, rfl⟩
                have y6 : (m2 : Int) + p0 + x - b0 - X0 = (d2 : Int) := by omega
                have hm1b : d1 < 20000 := by
                  have : m1 ≤ 128 * 128 := by rw [← hm1]; exact Nat.mul_le_mul (by omega) gw
                  omega
                have hm2b : d2 < 20000 := by
                  have : m2 ≤ 128 * 128 := by rw [← hm2]; exact Nat.mul_le_mul (by omega) tw
                  omega
                have HM := hid (And.intro hm1 (And.intro hm2 (And.intro hr (And.intro hcc (And.intro hsr (And.intro hsc (And.intro t1 (And.intro t2 (And.intro hI2 (And.intro hin (And.intro hrd (And.intro hcd' (And.intro hsr2 hsc2)))))))))))))
                have HE := hid (And.intro e1 (And.intro e2 (And.intro e3 (And.intro e4 (And.intro e5 e6)))))
                have b4 : -1100 ≤ y ∧ y ≤ 1100 := by omega
                have b5 : -1100 ≤ x ∧ x ≤ 1100 := by omega
                have b6 : -5000 ≤ p0 ∧ p0 ≤ 5000 ∧ -5000 ≤ p1 ∧ p1 ≤ 5000 := by omega
                have b7 : -5000 ≤ b0 ∧ b0 ≤ 5000 ∧ -5000 ≤ b1 ∧ b1 ≤ 5000 := by omega
                clear hm1 hm2 hr hcc hsr hsc t1 t2 hI2 hin hrd hcd' hsr2 hsc2 e1 e2 e3 e4 e5 e6 hI hat a0 a1 a2 a3 a4 a5 a6 a7 a8 a9 a10 a11 a12 a13 a14 a15
                obtain ⟨a0, a1, a2, a3, a4, a5, a6, a7, a8, a9, a10, a11, a12, a13, a14, a15⟩ := box3_kept HBc.out HR1.out
                go_wp2_with fail
                obtain ⟨hm1, hm2, -, -, hsr, hsc, t1, t2, hI2, hin, hrd, hcd', hsr2, hsc2⟩ := HM.out
                have n1 : 4 * d1 + 4 ≤ n := by
                  rw [HGD.out.2.2.2, ← hd1, ← hm1]
                  have := Nat.mul_le_mul (show r + 1 ≤ dh by omega) (Nat.le_refl (dw * 4))
                  rw [Nat.add_mul, ← Nat.mul_assoc r] at this
                  omega
                have n2 : 4 * d2 + 4 ≤ n' := by
                  rw [HGS.out.2.2.2, ← hd2, ← hm2]
                  have := Nat.mul_le_mul (show sr + 1 ≤ sh by omega) (Nat.le_refl (sw * 4))
                  rw [Nat.add_mul, ← Nat.mul_assoc sr] at this
                  omega
                obtain ⟨g', hA6, hnc, hcc6, hcell6⟩ := own_at (HOc.out.kept0 HR1.out) (by omega)
                obtain ⟨a, hA, hab, hca⟩ := (HSc.out.kept0 HR1.out) (by omega)
                subst hA6
                subst hA
                have ho4 : o = 0 → s (4 * (sr * sw + sc) + 3) = 255 := fun h => HO.out h _ (by rw [hm2, hd2]; omega)
                have same : ∀ ch, ch < 4 → resB 0 dw (In0 q0 q1 q2 q3 px py Xd0 Yd0 X0 Y0 sh sw) (fun r c => px0 0 0 o (toP dw (sz 0) p r c) (srcAt 0 sw s q0 q1 px py Xd0 Yd0 X0 Y0 r c)) p (4 * d1 + ch) = s (4 * d2 + ch) := by
                  intro ch hch
                  have := same4 ho HD.out.2.1 HS.out.2.1 hcd' hI2 ho4 (by rw [← t1]; omega) (by rw [← t2]; omega) hch
                  rw [hm1, hd1, hm2, hd2] at this
                  exact this
                have v1 : ∀ k, (convert 22 9 (.slice (some ⟨g', 4 * d1, none⟩) 4 (c6 - 4 * d1))).run Tryz.prog (wr.drewN k) = .ok (.string (strOfNums [s (4 * d2 + 0), s (4 * d2 + 1), s (4 * d2 + 2), s (4 * d2 + 3)])) (wr.drewN k) := by
                  have ad : ∀ i, (⟨g', 4 * d1, none⟩ : Addr).add i = ⟨g', 4 * d1 + i, none⟩ := fun i => by unfold Addr.add; by_cases h : i = 0 <;> simp [h]
                  exact conv4n _ (by rw [ad, hcell6 _ (by omega), same 0 (by omega)]) (by rw [ad, hcell6 _ (by omega), same 1 (by omega)]) (by rw [ad, hcell6 _ (by omega), same 2 (by omega)]) (by rw [ad, hcell6 _ (by omega), same 3 (by omega)])
                have v2 : ∀ k, (convert 22 9 (.slice (some (a.add (4 * d2))) 4 (cs - 4 * d2))).run Tryz.prog (wr.drewN k) = .ok (.string (strOfNums [s (4 * d2 + 0), s (4 * d2 + 1), s (4 * d2 + 2), s (4 * d2 + 3)])) (wr.drewN k) := by
                  exact conv4n _ (by rw [add_add]; exact hca _ (by omega)) (by rw [add_add]; exact hca _ (by omega)) (by rw [add_add]; exact hca _ (by omega)) (by rw [add_add]; exact hca _ (by omega))
                obtain ⟨S, hS⟩ : ∃ S, strOfNums [s (4 * d2 + 0), s (4 * d2 + 1), s (4 * d2 + 2), s (4 * d2 + 3)] = S := ⟨_, rfl⟩
                rw [hS] at v1 v2
                have hcs := HS.out.2.2.2
                clear hS same ho4 hcell6 hca hm1 hm2 hsr hsc t1 t2 hI2 hin hrd hcd' hsr2 hsc2 hd1 hd2
                have s1 : IntKind.i64.wrap (4 * (d1 : Int) + 4) = 4 * (d1 : Int) + 4 := IntWalk.i64_in _ (by omega)
                have s2 : 0 ≤ 4 * (d1 : Int) + 4 := by omega
                have s3 : 4 * (d1 : Int) + 4 ≤ (c6 : Int) := by omega
                have s4 : (4 * (d1 : Int) + 4).toNat = 4 * d1 + 4 := by omega
                have s5 : (4 * (d1 : Int)).toNat = 4 * d1 := by omega
                have s6 : ¬ (c6 = 4 * d1) := by omega
                have r1 : IntKind.i64.wrap (4 * (d2 : Int) + 4) = 4 * (d2 : Int) + 4 := IntWalk.i64_in _ (by omega)
                have r2 : 0 ≤ 4 * (d2 : Int) + 4 := by omega
                have r3 : 4 * (d2 : Int) + 4 ≤ (cs : Int) := by omega
                have r4 : (4 * (d2 : Int) + 4).toNat = 4 * d2 + 4 := by omega
                have r5 : (4 * (d2 : Int)).toNat = 4 * d2 := by omega
                have r6 : ¬ (cs = 4 * d2) := by omega
                go_quiet (fail)
                clear s1 s2 s3 s4 s5 s6 r1 r2 r3 r4 r5 r6 v1 v2
                go_wp2_with fail
                refine ⟨⟨x + 1, by omega, by go_num, gb_drewN HR1.out _⟩, by simp [intOf]; omega⟩
              · have y9 : y ≤ 1100 := by
                  by_cases he : emp b0 b1 b2 b3 = true
                  · have := ia_zero HC.out.2.1 he
                    omega
                  · obtain ⟨rx, ry, xe, ye, sx, sy, hRct, -⟩ := cl0_geo (dh := dh) (dw := dw) (sh := sh) (sw := sw) (by have := HC.out; rw [HGD.out.2.1, HGD.out.2.2.1, HGS.out.2.1, HGS.out.2.2.1] at this; exact this) (by cases h : emp b0 b1 b2 b3; rfl; exact absurd h he)
                    obtain ⟨e1, e2, e3, e4, l1, l2, l3, l4⟩ := hRct
                    obtain ⟨⟨vd0, vd1, vd2, vd3, vd4, vd5⟩, -⟩ := HVD.out
                    omega
                go_wp2_with fail
                refine ⟨⟨y + 1, by omega, by go_num, HR1.out⟩, by simp [intOf]; omega⟩
            · go_wp2_with fail
              go_ret
              exact ⟨rfl, gb_trans HGc.out HR1.out⟩
        · have hkb : (ks != 0) = true := by rw [bne_iff_ne]; exact hk
          clear hk
          go_wp2_with fail
          go_ret
          exact ⟨rfl, gb_trans HG4.out (by (repeat (first | exact gb_refl _ _ | assumption | refine gb_drew ?_ | refine gb_alloc ?_ _ | refine gb_setCell ?_ (.inr (by simp <;> omega)) _)))⟩
      · have hkb : (kd != 0) = true := by rw [bne_iff_ne]; exact hk
        clear hk
        go_wp2_with fail
        go_ret
        exact ⟨rfl, gb_trans HG3.out (by (repeat (first | exact gb_refl _ _ | assumption | refine gb_drew ?_ | refine gb_alloc ?_ _ | refine gb_setCell ?_ (.inr (by simp <;> omega)) _)))⟩
    · go_enter Tryz.func10, Tryz.ntmps10
      go_wp2_with fail
      refine (fits_y _ hn).mono ?_
      rintro e w1 ⟨rfl, hg⟩
      have hb0 := box3_kept (bd := w.heap.size) (br := w.heap.size + 1) (bs := w.heap.size + 2) (kd := kd) (Xd0 := Xd0) (Yd0 := Yd0) (Xd1 := Xd1) (Yd1 := Yd1) (Ad := Ad) (n := n) (cd := cd) (r0 := r0) (r1 := r1) (r2 := r2) (r3 := r3) (ks := ks) (X0 := X0) (Y0 := Y0) (X1 := X1) (Y1 := Y1) (As := As) (n' := n') (cs := cs) ⟨by go_simp, by go_simp, by go_simp, by go_simp, by go_simp, by go_simp, by go_simp, by go_simp, by go_simp, by go_simp, by go_simp, by go_simp, by go_simp, by go_simp, by go_simp, by go_simp⟩ hg
      have HG1 := hid (gb_trans (gb_alloc (gb_alloc (gb_alloc (gb_refl w none) _) _) _) hg)
      clear hg
      obtain ⟨a0, a1, a2, a3, a4, a5, a6, a7, a8, a9, a10, a11, a12, a13, a14, a15⟩ := hb0
      have z1 := World.block_lt_of_cell? w1 _ a0
      have z2 := World.block_lt_of_cell? w1 _ a6
      have z3 := World.block_lt_of_cell? w1 _ a10
      go_wp2_with fail
      refine (fits_n _ hn').mono ?_
      rintro e w2 ⟨rfl, hg⟩
      have hh2 := gb_trans (a := w1) (by (repeat (first | exact gb_refl _ _ | refine gb_drew ?_ | refine gb_alloc ?_ _ | refine gb_setCell ?_ (.inr (by simp <;> omega)) _))) hg
      have HG2 := hid (gb_trans HG1.out hh2)
      clear hg hh2
      go_wp2_with fail
      go_ret
      exact ⟨rfl, HG2.out⟩
  · go_enter Tryz.func10, Tryz.ntmps10
    go_wp2_with fail
    refine (fits_n _ hn).mono ?_
    rintro e w1 ⟨rfl, hg⟩
    have HG1 := hid (gb_trans (gb_alloc (gb_alloc (gb_alloc (gb_refl w none) _) _) _) hg)
    clear hg
    go_wp2_with fail
    go_ret
    exact ⟨rfl, HG1.out⟩
end Go.Proofs.YtgjpohmjkhgpfaaGreat
