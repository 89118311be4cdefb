/- Parts of the proof: what the functions of the package and of the reference do (LP, LM, N2, X5, N3, C). No condition but those that each theorem names. -/
import Derived.Test.YtgjpohmjkhgpfaaGreatD01
import Derived.Test.YtgjpohmjkhgpfaaGreatD03
import Derived.Test.YtgjpohmjkhgpfaaGreatD04
import Derived.Test.YtgjpohmjkhgpfaaGreatD08
import Derived.Laws.CopyOwn
set_option linter.unusedSimpArgs false
set_option linter.unusedVariables false
namespace Go.Proofs.YtgjpohmjkhgpfaaGreat
open Go.RowKit

/-- what the reference's color, times full squared, keeps to -/
def eu (x : Int) : Prop := 0 ≤ x ∧ x ≤ 281462092005375
theorem eu_cmp {op : Nat} {d s sa m : Int} (hd : fu d) (hs : fu s) (ha : fu sa) (hm : fu m) (hsa : s ≤ sa) : eu (cmp op d s sa m) := by
  unfold eu cmp
  have h1 := fu_mul hs hm
  have h2 := fu_mul ha hm
  have h3 : s * m ≤ sa * m := prod_le hm.1 hsa
  by_cases h : op = 0
  · rw [if_pos h]
    have h4 := Int.mul_nonneg hd.1 (show 0 ≤ 4294836225 - sa * m by omega)
    have h5 : d * (4294836225 - sa * m) ≤ 65535 * (4294836225 - sa * m) := Int.mul_le_mul_of_nonneg_right hd.2 (by omega)
    omega
  · rw [if_neg h]; omega


set_option maxRecDepth 100000 in
set_option maxHeartbeats 8000000 in
theorem near_0 {ab ao cN : Nat} {ap : Option Nat} {p : Nat → Int} {E0 E1 E2 E3 : Int} (w : World) (hp : By p) (hcell : ∀ i, i < 4 → w.cell? ((⟨ab, ao, ap⟩ : Addr).add i) = some (.int .u8 (p i))) (b0 : eu E0) (b1 : eu E1) (b2 : eu E2) (b3 : eu E3)
    (hN : NearV 0 p (fun i => match i with | 0 => E0 | 1 => E1 | 2 => E2 | _ => E3)) :
    Calls Tryz.prog 34 #[.int .i64 0, .slice (some ⟨ab, ao, ap⟩) 4 cN, v4i E0 E1 E2 E3, .int .i64 150] w fun e w' => e = .returned (.bool true) ∧ w.grownBy w' none := by
  have hb : ab < w.heap.size := World.block_lt_of_cell? w _ (by have := hcell 0 (by omega); exact this)
  unfold eu at b0 b1 b2 b3
  have D0 : -1655659364700 ≤ p 0 * 257 * 4294836225 - E0 ∧ p 0 * 257 * 4294836225 - E0 ≤ 1655659364700 := hN 0 (by omega)
  have D1 : -1655659364700 ≤ p 1 * 257 * 4294836225 - E1 ∧ p 1 * 257 * 4294836225 - E1 ≤ 1655659364700 := hN 1 (by omega)
  have D2 : -1655659364700 ≤ p 2 * 257 * 4294836225 - E2 ∧ p 2 * 257 * 4294836225 - E2 ≤ 1655659364700 := hN 2 (by omega)
  have D3 : -1655659364700 ≤ p 3 * 257 * 4294836225 - E3 ∧ p 3 * 257 * 4294836225 - E3 ≤ 1655659364700 := hN 3 (by omega)
  have B0 := hp 0
  have B1 := hp 1
  have B2 := hp 2
  have B3 := hp 3
  have K0 : w.cell? ⟨ab, ao, ap⟩ = some (.int .u8 (p 0)) := by have := hcell 0 (by omega); simpa [Addr.add] using this
  have K1 : w.cell? ⟨ab, ao + 1, none⟩ = some (.int .u8 (p 1)) := by have := hcell 1 (by omega); simpa [Addr.add] using this
  have K2 : w.cell? ⟨ab, ao + 2, none⟩ = some (.int .u8 (p 2)) := by have := hcell 2 (by omega); simpa [Addr.add] using this
  have K3 : w.cell? ⟨ab, ao + 3, none⟩ = some (.int .u8 (p 3)) := by have := hcell 3 (by omega); simpa [Addr.add] using this
  have hb1 : ab < w.heap.size + 1 := by omega
  have hb3 : ab ≠ w.heap.size := by omega
  have hb4 : ab ≠ w.heap.size + 1 := by omega
  clear hN hcell hp
  go_enter Tryz.func34, Tryz.ntmps34
  go_wp2_with fail
  go_loopw [18] (fun u wr => w.grownBy wr none ∧ w.heap.size + 1 < wr.heap.size ∧ Cells4 wr w.heap.size E0 E1 E2 E3 ∧ ((u = .int .i64 0 ∧ Cells4 wr (w.heap.size + 1) 0 0 0 0) ∨ (u = .int .i64 1 ∧ Cells4 wr (w.heap.size + 1) (p 0 * 257) 0 0 0) ∨ (u = .int .i64 2 ∧ Cells4 wr (w.heap.size + 1) (p 0 * 257) (p 1 * 257) 0 0) ∨ (u = .int .i64 3 ∧ Cells4 wr (w.heap.size + 1) (p 0 * 257) (p 1 * 257) (p 2 * 257) 0) ∨ (u = .int .i64 4 ∧ Cells4 wr (w.heap.size + 1) (p 0 * 257) (p 1 * 257) (p 2 * 257) (p 3 * 257)))) (fun u _ => (4 - intOf u).toNat)
  case atStart => exact ⟨by (repeat (first | exact gb_refl _ _ | refine gb_alloc ?_ _)), by simp, ⟨by go_simp, by go_simp, by go_simp, by go_simp, by go_simp, by go_simp, by go_simp, by go_simp⟩, .inl ⟨rfl, by go_simp, by go_simp, by go_simp, by go_simp, by go_simp, by go_simp, by go_simp, by go_simp⟩⟩
  case round =>
    obtain ⟨hg, hz, ⟨z0, z1, z2, z3, Z0, Z1, Z2, Z3⟩, hrel⟩ := hrel
    have HG := hid hg
    have hz1 : w.heap.size < wr.heap.size := by omega
    have k0 := (gb_cell0 hg (p := ⟨ab, ao, ap⟩) hb).trans K0
    have k1 := (gb_cell0 hg (p := ⟨ab, ao + 1, none⟩) hb).trans K1
    have k2 := (gb_cell0 hg (p := ⟨ab, ao + 2, none⟩) hb).trans K2
    have k3 := (gb_cell0 hg (p := ⟨ab, ao + 3, none⟩) hb).trans K3
    have hbr : ab < wr.heap.size := Nat.lt_of_lt_of_le hb hg.size
    clear hg K0 K1 K2 K3
    rcases hrel with ⟨rfl, c0, c1, c2, c3, C0, C1, C2, C3⟩ | ⟨rfl, c0, c1, c2, c3, C0, C1, C2, C3⟩ | ⟨rfl, c0, c1, c2, c3, C0, C1, C2, C3⟩ | ⟨rfl, c0, c1, c2, c3, C0, C1, C2, C3⟩ | ⟨rfl, c0, c1, c2, c3, C0, C1, C2, C3⟩
    · go_wp2
      first | exact ⟨⟨by (repeat (first | exact HG.out | refine gb_drew ?_ | refine gb_drewN ?_ _ | refine gb_setCell ?_ (.inr (by simp <;> omega)) _)), by go_simp, ⟨by go_simp, by go_simp, by go_simp, by go_simp, by go_simp, by go_simp, by go_simp, by go_simp⟩, .inr (.inl ⟨rfl, by go_simp, by go_simp, by go_simp, by go_simp, by go_simp, by go_simp, by go_simp, by go_simp⟩)⟩, by first | omega | (simp [intOf] <;> omega)⟩ | (go_simp; exact ⟨⟨by (repeat (first | exact HG.out | refine gb_drew ?_ | refine gb_drewN ?_ _ | refine gb_setCell ?_ (.inr (by simp <;> omega)) _)), ⟨by go_simp, by go_simp, by go_simp, by go_simp, by go_simp, by go_simp, by go_simp, by go_simp⟩, ⟨by go_simp, by go_simp, by go_simp, by go_simp, by go_simp, by go_simp, by go_simp, by go_simp⟩⟩, by first | omega | (simp [intOf] <;> omega)⟩)
    · go_wp2
      first | exact ⟨⟨by (repeat (first | exact HG.out | refine gb_drew ?_ | refine gb_drewN ?_ _ | refine gb_setCell ?_ (.inr (by simp <;> omega)) _)), by go_simp, ⟨by go_simp, by go_simp, by go_simp, by go_simp, by go_simp, by go_simp, by go_simp, by go_simp⟩, .inr (.inr (.inl ⟨rfl, by go_simp, by go_simp, by go_simp, by go_simp, by go_simp, by go_simp, by go_simp, by go_simp⟩))⟩, by first | omega | (simp [intOf] <;> omega)⟩ | (go_simp; exact ⟨⟨by (repeat (first | exact HG.out | refine gb_drew ?_ | refine gb_drewN ?_ _ | refine gb_setCell ?_ (.inr (by simp <;> omega)) _)), ⟨by go_simp, by go_simp, by go_simp, by go_simp, by go_simp, by go_simp, by go_simp, by go_simp⟩, ⟨by go_simp, by go_simp, by go_simp, by go_simp, by go_simp, by go_simp, by go_simp, by go_simp⟩⟩, by first | omega | (simp [intOf] <;> omega)⟩)
    · go_wp2
      first | exact ⟨⟨by (repeat (first | exact HG.out | refine gb_drew ?_ | refine gb_drewN ?_ _ | refine gb_setCell ?_ (.inr (by simp <;> omega)) _)), by go_simp, ⟨by go_simp, by go_simp, by go_simp, by go_simp, by go_simp, by go_simp, by go_simp, by go_simp⟩, .inr (.inr (.inr (.inl ⟨rfl, by go_simp, by go_simp, by go_simp, by go_simp, by go_simp, by go_simp, by go_simp, by go_simp⟩)))⟩, by first | omega | (simp [intOf] <;> omega)⟩ | (go_simp; exact ⟨⟨by (repeat (first | exact HG.out | refine gb_drew ?_ | refine gb_drewN ?_ _ | refine gb_setCell ?_ (.inr (by simp <;> omega)) _)), ⟨by go_simp, by go_simp, by go_simp, by go_simp, by go_simp, by go_simp, by go_simp, by go_simp⟩, ⟨by go_simp, by go_simp, by go_simp, by go_simp, by go_simp, by go_simp, by go_simp, by go_simp⟩⟩, by first | omega | (simp [intOf] <;> omega)⟩)
    · go_wp2
      first | exact ⟨⟨by (repeat (first | exact HG.out | refine gb_drew ?_ | refine gb_drewN ?_ _ | refine gb_setCell ?_ (.inr (by simp <;> omega)) _)), by go_simp, ⟨by go_simp, by go_simp, by go_simp, by go_simp, by go_simp, by go_simp, by go_simp, by go_simp⟩, .inr (.inr (.inr (.inr (⟨rfl, by go_simp, by go_simp, by go_simp, by go_simp, by go_simp, by go_simp, by go_simp, by go_simp⟩))))⟩, by first | omega | (simp [intOf] <;> omega)⟩ | (go_simp; exact ⟨⟨by (repeat (first | exact HG.out | refine gb_drew ?_ | refine gb_drewN ?_ _ | refine gb_setCell ?_ (.inr (by simp <;> omega)) _)), ⟨by go_simp, by go_simp, by go_simp, by go_simp, by go_simp, by go_simp, by go_simp, by go_simp⟩, ⟨by go_simp, by go_simp, by go_simp, by go_simp, by go_simp, by go_simp, by go_simp, by go_simp⟩⟩, by first | omega | (simp [intOf] <;> omega)⟩)
    · go_wp2_with fail
      obtain ⟨wo, hwo⟩ : ∃ wo : World, wo = wr := ⟨_, rfl⟩
      go_loopw [45] (fun u wr => w.grownBy wr none ∧ w.heap.size + 1 < wr.heap.size ∧ Cells4 wr w.heap.size E0 E1 E2 E3 ∧ Cells4 wr (w.heap.size + 1) (p 0 * 257) (p 1 * 257) (p 2 * 257) (p 3 * 257) ∧ (u = .int .i64 0 ∨ u = .int .i64 1 ∨ u = .int .i64 2 ∨ u = .int .i64 3 ∨ u = .int .i64 4)) (fun u _ => (4 - intOf u).toNat)
      case atStart => exact ⟨by (repeat (first | exact gb_refl _ _ | exact HG.out | refine gb_alloc ?_ _ | refine gb_setCell ?_ (.inr (by simp <;> omega)) _)), by first | assumption | (simp <;> omega), ⟨by go_simp, by go_simp, by go_simp, by go_simp, by go_simp, by go_simp, by go_simp, by go_simp⟩, ⟨by go_simp, by go_simp, by go_simp, by go_simp, by go_simp, by go_simp, by go_simp, by go_simp⟩, .inl rfl⟩
      case round =>
      clear hwo wo c0 c1 c2 c3 C0 C1 C2 C3 z0 z1 z2 z3 Z0 Z1 Z2 Z3 HG hz hz1
      obtain ⟨hg, hz, ⟨z0, z1, z2, z3, Z0, Z1, Z2, Z3⟩, ⟨c0, c1, c2, c3, C0, C1, C2, C3⟩, hrel⟩ := hrel
      have HG := hid hg
      have hz1 : w.heap.size < wr.heap.size := by omega
      clear hg
      rcases hrel with rfl | rfl | rfl | rfl | rfl
      · by_cases hs : (p 0 * 257) * 65535 * 65535 - E0 < 0
        · go_wp2
          go_quiet (fail)
          go_wp2
          exact ⟨⟨by (repeat (first | exact HG.out | refine gb_drew ?_ | refine gb_drewN ?_ _ | refine gb_setCell ?_ (.inr (by simp <;> omega)) _)), by first | assumption | (simp <;> omega), ⟨by go_simp, by go_simp, by go_simp, by go_simp, by go_simp, by go_simp, by go_simp, by go_simp⟩, ⟨by go_simp, by go_simp, by go_simp, by go_simp, by go_simp, by go_simp, by go_simp, by go_simp⟩, .inr (.inl rfl)⟩, by first | omega | (simp [intOf] <;> omega)⟩
        · go_wp2
          go_quiet (fail)
          go_wp2
          exact ⟨⟨by (repeat (first | exact HG.out | refine gb_drew ?_ | refine gb_drewN ?_ _ | refine gb_setCell ?_ (.inr (by simp <;> omega)) _)), by first | assumption | (simp <;> omega), ⟨by go_simp, by go_simp, by go_simp, by go_simp, by go_simp, by go_simp, by go_simp, by go_simp⟩, ⟨by go_simp, by go_simp, by go_simp, by go_simp, by go_simp, by go_simp, by go_simp, by go_simp⟩, .inr (.inl rfl)⟩, by first | omega | (simp [intOf] <;> omega)⟩
      · by_cases hs : (p 1 * 257) * 65535 * 65535 - E1 < 0
        · go_wp2
          go_quiet (fail)
          go_wp2
          exact ⟨⟨by (repeat (first | exact HG.out | refine gb_drew ?_ | refine gb_drewN ?_ _ | refine gb_setCell ?_ (.inr (by simp <;> omega)) _)), by first | assumption | (simp <;> omega), ⟨by go_simp, by go_simp, by go_simp, by go_simp, by go_simp, by go_simp, by go_simp, by go_simp⟩, ⟨by go_simp, by go_simp, by go_simp, by go_simp, by go_simp, by go_simp, by go_simp, by go_simp⟩, .inr (.inr (.inl rfl))⟩, by first | omega | (simp [intOf] <;> omega)⟩
        · go_wp2
          go_quiet (fail)
          go_wp2
          exact ⟨⟨by (repeat (first | exact HG.out | refine gb_drew ?_ | refine gb_drewN ?_ _ | refine gb_setCell ?_ (.inr (by simp <;> omega)) _)), by first | assumption | (simp <;> omega), ⟨by go_simp, by go_simp, by go_simp, by go_simp, by go_simp, by go_simp, by go_simp, by go_simp⟩, ⟨by go_simp, by go_simp, by go_simp, by go_simp, by go_simp, by go_simp, by go_simp, by go_simp⟩, .inr (.inr (.inl rfl))⟩, by first | omega | (simp [intOf] <;> omega)⟩
      · by_cases hs : (p 2 * 257) * 65535 * 65535 - E2 < 0
        · go_wp2
          go_quiet (fail)
          go_wp2
          exact ⟨⟨by (repeat (first | exact HG.out | refine gb_drew ?_ | refine gb_drewN ?_ _ | refine gb_setCell ?_ (.inr (by simp <;> omega)) _)), by first | assumption | (simp <;> omega), ⟨by go_simp, by go_simp, by go_simp, by go_simp, by go_simp, by go_simp, by go_simp, by go_simp⟩, ⟨by go_simp, by go_simp, by go_simp, by go_simp, by go_simp, by go_simp, by go_simp, by go_simp⟩, .inr (.inr (.inr (.inl rfl)))⟩, by first | omega | (simp [intOf] <;> omega)⟩
        · go_wp2
          go_quiet (fail)
          go_wp2
          exact ⟨⟨by (repeat (first | exact HG.out | refine gb_drew ?_ | refine gb_drewN ?_ _ | refine gb_setCell ?_ (.inr (by simp <;> omega)) _)), by first | assumption | (simp <;> omega), ⟨by go_simp, by go_simp, by go_simp, by go_simp, by go_simp, by go_simp, by go_simp, by go_simp⟩, ⟨by go_simp, by go_simp, by go_simp, by go_simp, by go_simp, by go_simp, by go_simp, by go_simp⟩, .inr (.inr (.inr (.inl rfl)))⟩, by first | omega | (simp [intOf] <;> omega)⟩
      · by_cases hs : (p 3 * 257) * 65535 * 65535 - E3 < 0
        · go_wp2
          go_quiet (fail)
          go_wp2
          exact ⟨⟨by (repeat (first | exact HG.out | refine gb_drew ?_ | refine gb_drewN ?_ _ | refine gb_setCell ?_ (.inr (by simp <;> omega)) _)), by first | assumption | (simp <;> omega), ⟨by go_simp, by go_simp, by go_simp, by go_simp, by go_simp, by go_simp, by go_simp, by go_simp⟩, ⟨by go_simp, by go_simp, by go_simp, by go_simp, by go_simp, by go_simp, by go_simp, by go_simp⟩, .inr (.inr (.inr (.inr (rfl))))⟩, by first | omega | (simp [intOf] <;> omega)⟩
        · go_wp2
          go_quiet (fail)
          go_wp2
          exact ⟨⟨by (repeat (first | exact HG.out | refine gb_drew ?_ | refine gb_drewN ?_ _ | refine gb_setCell ?_ (.inr (by simp <;> omega)) _)), by first | assumption | (simp <;> omega), ⟨by go_simp, by go_simp, by go_simp, by go_simp, by go_simp, by go_simp, by go_simp, by go_simp⟩, ⟨by go_simp, by go_simp, by go_simp, by go_simp, by go_simp, by go_simp, by go_simp, by go_simp⟩, .inr (.inr (.inr (.inr (rfl))))⟩, by first | omega | (simp [intOf] <;> omega)⟩
      · go_wp2
        go_ret
        exact ⟨rfl, by (repeat (first | exact HG.out | refine gb_drew ?_ | refine gb_drewN ?_ _ | refine gb_setCell ?_ (.inr (by simp <;> omega)) _))⟩

set_option maxRecDepth 100000 in
set_option maxHeartbeats 8000000 in
theorem near_4 {ab ao cN : Nat} {ap : Option Nat} {p : Nat → Int} {E0 E1 E2 E3 : Int} (w : World) (hp : By p) (hcell : ∀ i, i < 8 → w.cell? ((⟨ab, ao, ap⟩ : Addr).add i) = some (.int .u8 (p i))) (b0 : eu E0) (b1 : eu E1) (b2 : eu E2) (b3 : eu E3)
    (hN : NearV 4 p (fun i => match i with | 0 => E0 | 1 => E1 | 2 => E2 | _ => E3)) :
    Calls Tryz.prog 34 #[.int .i64 4, .slice (some ⟨ab, ao, ap⟩) 8 cN, v4i E0 E1 E2 E3, .int .i64 200] w fun e w' => e = .returned (.bool true) ∧ w.grownBy w' none := by
  have hb : ab < w.heap.size := World.block_lt_of_cell? w _ (by have := hcell 0 (by omega); exact this)
  unfold eu at b0 b1 b2 b3
  have D0 : -8589672400 ≤ (p (2 * 0) * 256 + p (2 * 0 + 1)) * 4294836225 - E0 ∧ (p (2 * 0) * 256 + p (2 * 0 + 1)) * 4294836225 - E0 ≤ 8589672400 := hN 0 (by omega)
  have D1 : -8589672400 ≤ (p (2 * 1) * 256 + p (2 * 1 + 1)) * 4294836225 - E1 ∧ (p (2 * 1) * 256 + p (2 * 1 + 1)) * 4294836225 - E1 ≤ 8589672400 := hN 1 (by omega)
  have D2 : -8589672400 ≤ (p (2 * 2) * 256 + p (2 * 2 + 1)) * 4294836225 - E2 ∧ (p (2 * 2) * 256 + p (2 * 2 + 1)) * 4294836225 - E2 ≤ 8589672400 := hN 2 (by omega)
  have D3 : -8589672400 ≤ (p (2 * 3) * 256 + p (2 * 3 + 1)) * 4294836225 - E3 ∧ (p (2 * 3) * 256 + p (2 * 3 + 1)) * 4294836225 - E3 ≤ 8589672400 := hN 3 (by omega)
  obtain ⟨G0, hG0⟩ : ∃ G, wd p 0 = G := ⟨_, rfl⟩
  have hG0' : p (2 * 0) * 256 + p (2 * 0 + 1) = G0 := hG0
  rw [hG0'] at D0
  have g0 : 0 ≤ G0 ∧ G0 ≤ 65535 := by rw [← hG0']; have h1 := hp (2 * 0); have h2 := hp (2 * 0 + 1); omega
  obtain ⟨G1, hG1⟩ : ∃ G, wd p 1 = G := ⟨_, rfl⟩
  have hG1' : p (2 * 1) * 256 + p (2 * 1 + 1) = G1 := hG1
  rw [hG1'] at D1
  have g1 : 0 ≤ G1 ∧ G1 ≤ 65535 := by rw [← hG1']; have h1 := hp (2 * 1); have h2 := hp (2 * 1 + 1); omega
  obtain ⟨G2, hG2⟩ : ∃ G, wd p 2 = G := ⟨_, rfl⟩
  have hG2' : p (2 * 2) * 256 + p (2 * 2 + 1) = G2 := hG2
  rw [hG2'] at D2
  have g2 : 0 ≤ G2 ∧ G2 ≤ 65535 := by rw [← hG2']; have h1 := hp (2 * 2); have h2 := hp (2 * 2 + 1); omega
  obtain ⟨G3, hG3⟩ : ∃ G, wd p 3 = G := ⟨_, rfl⟩
  have hG3' : p (2 * 3) * 256 + p (2 * 3 + 1) = G3 := hG3
  rw [hG3'] at D3
  have g3 : 0 ≤ G3 ∧ G3 ≤ 65535 := by rw [← hG3']; have h1 := hp (2 * 3); have h2 := hp (2 * 3 + 1); omega
  have hb1 : ab < w.heap.size + 1 := by omega
  have hb3 : ab ≠ w.heap.size := by omega
  have hb4 : ab ≠ w.heap.size + 1 := by omega
  have HCell := hid hcell
  have HPb := hid hp
  clear hN hcell hp
  go_enter Tryz.func34, Tryz.ntmps34
  go_wp2_with fail
  refine (wide_c (p := p) _ HPb.out (fun i hi => (gb_cell0 (a := w) (gb_alloc (gb_alloc (gb_refl _ _) _) _) (by rw [add_block]; exact hb)).trans (HCell.out i hi))).mono ?_
  rintro e w2 ⟨rfl, hg⟩
  rw [hG0, hG1, hG2, hG3]
  obtain ⟨cc, ff⟩ := gb_rules hg
  have hz : w.heap.size + 1 < w2.heap.size := by have := hg.size; simp at this; omega
  have hz1 : w.heap.size < w2.heap.size := by omega
  have z0 : w2.cell? ⟨w.heap.size, 0, none⟩ = some (.int .i64 (E0)) := (cc _ _ (by first | (simp; done) | (simp; omega))).trans (by go_simp)
  have Z0 : w2.frozen? ⟨w.heap.size, 0, none⟩ = false := (ff _ _ (by first | (simp; done) | (simp; omega))).trans (by go_simp)
  have z1 : w2.cell? ⟨w.heap.size, 1, none⟩ = some (.int .i64 (E1)) := (cc _ _ (by first | (simp; done) | (simp; omega))).trans (by go_simp)
  have Z1 : w2.frozen? ⟨w.heap.size, 1, none⟩ = false := (ff _ _ (by first | (simp; done) | (simp; omega))).trans (by go_simp)
  have z2 : w2.cell? ⟨w.heap.size, 2, none⟩ = some (.int .i64 (E2)) := (cc _ _ (by first | (simp; done) | (simp; omega))).trans (by go_simp)
  have Z2 : w2.frozen? ⟨w.heap.size, 2, none⟩ = false := (ff _ _ (by first | (simp; done) | (simp; omega))).trans (by go_simp)
  have z3 : w2.cell? ⟨w.heap.size, 3, none⟩ = some (.int .i64 (E3)) := (cc _ _ (by first | (simp; done) | (simp; omega))).trans (by go_simp)
  have Z3 : w2.frozen? ⟨w.heap.size, 3, none⟩ = false := (ff _ _ (by first | (simp; done) | (simp; omega))).trans (by go_simp)
  have c0 : w2.cell? ⟨w.heap.size + 1, 0, none⟩ = some (.int .i64 (0)) := (cc _ _ (by first | (simp; done) | (simp; omega))).trans (by go_simp)
  have C0 : w2.frozen? ⟨w.heap.size + 1, 0, none⟩ = false := (ff _ _ (by first | (simp; done) | (simp; omega))).trans (by go_simp)
  have c1 : w2.cell? ⟨w.heap.size + 1, 1, none⟩ = some (.int .i64 (0)) := (cc _ _ (by first | (simp; done) | (simp; omega))).trans (by go_simp)
  have C1 : w2.frozen? ⟨w.heap.size + 1, 1, none⟩ = false := (ff _ _ (by first | (simp; done) | (simp; omega))).trans (by go_simp)
  have c2 : w2.cell? ⟨w.heap.size + 1, 2, none⟩ = some (.int .i64 (0)) := (cc _ _ (by first | (simp; done) | (simp; omega))).trans (by go_simp)
  have C2 : w2.frozen? ⟨w.heap.size + 1, 2, none⟩ = false := (ff _ _ (by first | (simp; done) | (simp; omega))).trans (by go_simp)
  have c3 : w2.cell? ⟨w.heap.size + 1, 3, none⟩ = some (.int .i64 (0)) := (cc _ _ (by first | (simp; done) | (simp; omega))).trans (by go_simp)
  have C3 : w2.frozen? ⟨w.heap.size + 1, 3, none⟩ = false := (ff _ _ (by first | (simp; done) | (simp; omega))).trans (by go_simp)
  have HG := hid (gb_trans (gb_alloc (gb_alloc (gb_refl w none) _) _) hg)
  clear hg cc ff hG0 hG1 hG2 hG3
  go_wp2_with fail
  obtain ⟨wo, hwo⟩ : ∃ wo : World, wo = w2 := ⟨_, rfl⟩
  go_loopw [45] (fun u wr => w.grownBy wr none ∧ w.heap.size + 1 < wr.heap.size ∧ Cells4 wr w.heap.size E0 E1 E2 E3 ∧ Cells4 wr (w.heap.size + 1) G0 G1 G2 G3 ∧ (u = .int .i64 0 ∨ u = .int .i64 1 ∨ u = .int .i64 2 ∨ u = .int .i64 3 ∨ u = .int .i64 4)) (fun u _ => (4 - intOf u).toNat)
  case atStart => exact ⟨by (repeat (first | exact gb_refl _ _ | exact HG.out | refine gb_alloc ?_ _ | refine gb_setCell ?_ (.inr (by simp <;> omega)) _)), by first | assumption | (simp <;> omega), ⟨by go_simp, by go_simp, by go_simp, by go_simp, by go_simp, by go_simp, by go_simp, by go_simp⟩, ⟨by go_simp, by go_simp, by go_simp, by go_simp, by go_simp, by go_simp, by go_simp, by go_simp⟩, .inl rfl⟩
  case round =>
  clear hwo wo c0 c1 c2 c3 C0 C1 C2 C3 z0 z1 z2 z3 Z0 Z1 Z2 Z3 HG hz hz1
  obtain ⟨hg, hz, ⟨z0, z1, z2, z3, Z0, Z1, Z2, Z3⟩, ⟨c0, c1, c2, c3, C0, C1, C2, C3⟩, hrel⟩ := hrel
  have HG := hid hg
  have hz1 : w.heap.size < wr.heap.size := by omega
  clear hg
  rcases hrel with rfl | rfl | rfl | rfl | rfl
  · by_cases hs : G0 * 65535 * 65535 - E0 < 0
    · go_wp2
      go_quiet (fail)
      go_wp2
      exact ⟨⟨by (repeat (first | exact HG.out | refine gb_drew ?_ | refine gb_drewN ?_ _ | refine gb_setCell ?_ (.inr (by simp <;> omega)) _)), by first | assumption | (simp <;> omega), ⟨by go_simp, by go_simp, by go_simp, by go_simp, by go_simp, by go_simp, by go_simp, by go_simp⟩, ⟨by go_simp, by go_simp, by go_simp, by go_simp, by go_simp, by go_simp, by go_simp, by go_simp⟩, .inr (.inl rfl)⟩, by first | omega | (simp [intOf] <;> omega)⟩
    · go_wp2
      go_quiet (fail)
      go_wp2
      exact ⟨⟨by (repeat (first | exact HG.out | refine gb_drew ?_ | refine gb_drewN ?_ _ | refine gb_setCell ?_ (.inr (by simp <;> omega)) _)), by first | assumption | (simp <;> omega), ⟨by go_simp, by go_simp, by go_simp, by go_simp, by go_simp, by go_simp, by go_simp, by go_simp⟩, ⟨by go_simp, by go_simp, by go_simp, by go_simp, by go_simp, by go_simp, by go_simp, by go_simp⟩, .inr (.inl rfl)⟩, by first | omega | (simp [intOf] <;> omega)⟩
  · by_cases hs : G1 * 65535 * 65535 - E1 < 0
    · go_wp2
      go_quiet (fail)
      go_wp2
      exact ⟨⟨by (repeat (first | exact HG.out | refine gb_drew ?_ | refine gb_drewN ?_ _ | refine gb_setCell ?_ (.inr (by simp <;> omega)) _)), by first | assumption | (simp <;> omega), ⟨by go_simp, by go_simp, by go_simp, by go_simp, by go_simp, by go_simp, by go_simp, by go_simp⟩, ⟨by go_simp, by go_simp, by go_simp, by go_simp, by go_simp, by go_simp, by go_simp, by go_simp⟩, .inr (.inr (.inl rfl))⟩, by first | omega | (simp [intOf] <;> omega)⟩
    · go_wp2
      go_quiet (fail)
      go_wp2
      exact ⟨⟨by (repeat (first | exact HG.out | refine gb_drew ?_ | refine gb_drewN ?_ _ | refine gb_setCell ?_ (.inr (by simp <;> omega)) _)), by first | assumption | (simp <;> omega), ⟨by go_simp, by go_simp, by go_simp, by go_simp, by go_simp, by go_simp, by go_simp, by go_simp⟩, ⟨by go_simp, by go_simp, by go_simp, by go_simp, by go_simp, by go_simp, by go_simp, by go_simp⟩, .inr (.inr (.inl rfl))⟩, by first | omega | (simp [intOf] <;> omega)⟩
  · by_cases hs : G2 * 65535 * 65535 - E2 < 0
    · go_wp2
      go_quiet (fail)
      go_wp2
      exact ⟨⟨by (repeat (first | exact HG.out | refine gb_drew ?_ | refine gb_drewN ?_ _ | refine gb_setCell ?_ (.inr (by simp <;> omega)) _)), by first | assumption | (simp <;> omega), ⟨by go_simp, by go_simp, by go_simp, by go_simp, by go_simp, by go_simp, by go_simp, by go_simp⟩, ⟨by go_simp, by go_simp, by go_simp, by go_simp, by go_simp, by go_simp, by go_simp, by go_simp⟩, .inr (.inr (.inr (.inl rfl)))⟩, by first | omega | (simp [intOf] <;> omega)⟩
    · go_wp2
      go_quiet (fail)
      go_wp2
      exact ⟨⟨by (repeat (first | exact HG.out | refine gb_drew ?_ | refine gb_drewN ?_ _ | refine gb_setCell ?_ (.inr (by simp <;> omega)) _)), by first | assumption | (simp <;> omega), ⟨by go_simp, by go_simp, by go_simp, by go_simp, by go_simp, by go_simp, by go_simp, by go_simp⟩, ⟨by go_simp, by go_simp, by go_simp, by go_simp, by go_simp, by go_simp, by go_simp, by go_simp⟩, .inr (.inr (.inr (.inl rfl)))⟩, by first | omega | (simp [intOf] <;> omega)⟩
  · by_cases hs : G3 * 65535 * 65535 - E3 < 0
    · go_wp2
      go_quiet (fail)
      go_wp2
      exact ⟨⟨by (repeat (first | exact HG.out | refine gb_drew ?_ | refine gb_drewN ?_ _ | refine gb_setCell ?_ (.inr (by simp <;> omega)) _)), by first | assumption | (simp <;> omega), ⟨by go_simp, by go_simp, by go_simp, by go_simp, by go_simp, by go_simp, by go_simp, by go_simp⟩, ⟨by go_simp, by go_simp, by go_simp, by go_simp, by go_simp, by go_simp, by go_simp, by go_simp⟩, .inr (.inr (.inr (.inr (rfl))))⟩, by first | omega | (simp [intOf] <;> omega)⟩
    · go_wp2
      go_quiet (fail)
      go_wp2
      exact ⟨⟨by (repeat (first | exact HG.out | refine gb_drew ?_ | refine gb_drewN ?_ _ | refine gb_setCell ?_ (.inr (by simp <;> omega)) _)), by first | assumption | (simp <;> omega), ⟨by go_simp, by go_simp, by go_simp, by go_simp, by go_simp, by go_simp, by go_simp, by go_simp⟩, ⟨by go_simp, by go_simp, by go_simp, by go_simp, by go_simp, by go_simp, by go_simp, by go_simp⟩, .inr (.inr (.inr (.inr (rfl))))⟩, by first | omega | (simp [intOf] <;> omega)⟩
  · go_wp2
    go_ret
    exact ⟨rfl, by (repeat (first | exact HG.out | refine gb_drew ?_ | refine gb_drewN ?_ _ | refine gb_setCell ?_ (.inr (by simp <;> omega)) _))⟩

set_option maxRecDepth 100000 in
set_option maxHeartbeats 8000000 in
theorem near_2 {ab ao cN : Nat} {ap : Option Nat} {p : Nat → Int} {E0 E1 E2 E3 : Int} (w : World) (hp : By p) (hcell : ∀ i, i < 1 → w.cell? ((⟨ab, ao, ap⟩ : Addr).add i) = some (.int .u8 (p i))) (b0 : eu E0) (b1 : eu E1) (b2 : eu E2) (b3 : eu E3)
    (hN : NearV 2 p (fun i => match i with | 0 => E0 | 1 => E1 | 2 => E2 | _ => E3)) :
    Calls Tryz.prog 34 #[.int .i64 2, .slice (some ⟨ab, ao, ap⟩) 1 cN, v4i E0 E1 E2 E3, .int .i64 150] w fun e w' => e = .returned (.bool true) ∧ w.grownBy w' none := by
  have hb : ab < w.heap.size := World.block_lt_of_cell? w _ (by have := hcell 0 (by omega); exact this)
  unfold eu at b0 b1 b2 b3
  have D3 : -1655659364700 ≤ p 0 * 257 * 4294836225 - E3 ∧ p 0 * 257 * 4294836225 - E3 ≤ 1655659364700 := hN
  have B0 := hp 0
  have K0 : w.cell? ⟨ab, ao, ap⟩ = some (.int .u8 (p 0)) := by have := hcell 0 (by omega); simpa [Addr.add] using this
  have hb1 : ab < w.heap.size + 1 := by omega
  have hb3 : ab ≠ w.heap.size := by omega
  have hb4 : ab ≠ w.heap.size + 1 := by omega
  clear hN hcell hp
  go_enter Tryz.func34, Tryz.ntmps34
  go_wp2_with fail
  obtain ⟨wo, hwo⟩ : ∃ wo : World, wo = w := ⟨_, rfl⟩
  go_loopw [45] (fun u wr => w.grownBy wr none ∧ w.heap.size + 1 < wr.heap.size ∧ Cells4 wr w.heap.size 0 0 0 E3 ∧ Cells4 wr (w.heap.size + 1) 0 0 0 (p 0 * 257) ∧ (u = .int .i64 0 ∨ u = .int .i64 1 ∨ u = .int .i64 2 ∨ u = .int .i64 3 ∨ u = .int .i64 4)) (fun u _ => (4 - intOf u).toNat)
  case atStart => exact ⟨by (repeat (first | exact gb_refl _ _ | exact HG.out | refine gb_alloc ?_ _ | refine gb_setCell ?_ (.inr (by simp <;> omega)) _)), by first | assumption | (simp <;> omega), ⟨by go_simp, by go_simp, by go_simp, by go_simp, by go_simp, by go_simp, by go_simp, by go_simp⟩, ⟨by go_simp, by go_simp, by go_simp, by go_simp, by go_simp, by go_simp, by go_simp, by go_simp⟩, .inl rfl⟩
  case round =>
  clear hwo wo
  obtain ⟨hg, hz, ⟨z0, z1, z2, z3, Z0, Z1, Z2, Z3⟩, ⟨c0, c1, c2, c3, C0, C1, C2, C3⟩, hrel⟩ := hrel
  have HG := hid hg
  have hz1 : w.heap.size < wr.heap.size := by omega
  clear hg
  rcases hrel with rfl | rfl | rfl | rfl | rfl
  · go_wp2
    go_quiet (fail)
    go_wp2
    exact ⟨⟨by (repeat (first | exact HG.out | refine gb_drew ?_ | refine gb_drewN ?_ _ | refine gb_setCell ?_ (.inr (by simp <;> omega)) _)), by first | assumption | (simp <;> omega), ⟨by go_simp, by go_simp, by go_simp, by go_simp, by go_simp, by go_simp, by go_simp, by go_simp⟩, ⟨by go_simp, by go_simp, by go_simp, by go_simp, by go_simp, by go_simp, by go_simp, by go_simp⟩, .inr (.inl rfl)⟩, by first | omega | (simp [intOf] <;> omega)⟩
  · go_wp2
    go_quiet (fail)
    go_wp2
    exact ⟨⟨by (repeat (first | exact HG.out | refine gb_drew ?_ | refine gb_drewN ?_ _ | refine gb_setCell ?_ (.inr (by simp <;> omega)) _)), by first | assumption | (simp <;> omega), ⟨by go_simp, by go_simp, by go_simp, by go_simp, by go_simp, by go_simp, by go_simp, by go_simp⟩, ⟨by go_simp, by go_simp, by go_simp, by go_simp, by go_simp, by go_simp, by go_simp, by go_simp⟩, .inr (.inr (.inl rfl))⟩, by first | omega | (simp [intOf] <;> omega)⟩
  · go_wp2
    go_quiet (fail)
    go_wp2
    exact ⟨⟨by (repeat (first | exact HG.out | refine gb_drew ?_ | refine gb_drewN ?_ _ | refine gb_setCell ?_ (.inr (by simp <;> omega)) _)), by first | assumption | (simp <;> omega), ⟨by go_simp, by go_simp, by go_simp, by go_simp, by go_simp, by go_simp, by go_simp, by go_simp⟩, ⟨by go_simp, by go_simp, by go_simp, by go_simp, by go_simp, by go_simp, by go_simp, by go_simp⟩, .inr (.inr (.inr (.inl rfl)))⟩, by first | omega | (simp [intOf] <;> omega)⟩
  · by_cases hs : (p 0 * 257) * 65535 * 65535 - E3 < 0
    · go_wp2
      go_quiet (fail)
      go_wp2
      exact ⟨⟨by (repeat (first | exact HG.out | refine gb_drew ?_ | refine gb_drewN ?_ _ | refine gb_setCell ?_ (.inr (by simp <;> omega)) _)), by first | assumption | (simp <;> omega), ⟨by go_simp, by go_simp, by go_simp, by go_simp, by go_simp, by go_simp, by go_simp, by go_simp⟩, ⟨by go_simp, by go_simp, by go_simp, by go_simp, by go_simp, by go_simp, by go_simp, by go_simp⟩, .inr (.inr (.inr (.inr (rfl))))⟩, by first | omega | (simp [intOf] <;> omega)⟩
    · go_wp2
      go_quiet (fail)
      go_wp2
      exact ⟨⟨by (repeat (first | exact HG.out | refine gb_drew ?_ | refine gb_drewN ?_ _ | refine gb_setCell ?_ (.inr (by simp <;> omega)) _)), by first | assumption | (simp <;> omega), ⟨by go_simp, by go_simp, by go_simp, by go_simp, by go_simp, by go_simp, by go_simp, by go_simp⟩, ⟨by go_simp, by go_simp, by go_simp, by go_simp, by go_simp, by go_simp, by go_simp, by go_simp⟩, .inr (.inr (.inr (.inr (rfl))))⟩, by first | omega | (simp [intOf] <;> omega)⟩
  · go_wp2
    go_ret
    exact ⟨rfl, by (repeat (first | exact HG.out | refine gb_drew ?_ | refine gb_drewN ?_ _ | refine gb_setCell ?_ (.inr (by simp <;> omega)) _))⟩
end Go.Proofs.YtgjpohmjkhgpfaaGreat

namespace Go.Proofs.YtgjpohmjkhgpfaaGreat
open Go.RowKit

set_option maxRecDepth 100000 in
set_option maxHeartbeats 4000000 in
theorem shas_y (x0 y0 x1 y1 x y : Int) (w : World) (h1 : x0 ≤ x) (h2 : x < x1) (h3 : y0 ≤ y) (h4 : y < y1) :
    Calls Tryz.prog 28 #[vR x0 y0 x1 y1, .int .i64 x, .int .i64 y] w fun e w' => e = .returned (.bool true) ∧ w.grownBy w' none := by
  go_enter Tryz.func28, Tryz.ntmps28
  go_wp2
  go_ret
  exact ⟨rfl, gb_alloc (gb_refl _ _) _⟩
set_option maxRecDepth 100000 in
set_option maxHeartbeats 4000000 in
theorem shas_n (x0 y0 x1 y1 x y : Int) (w : World) (h : ¬ (x0 ≤ x ∧ x < x1 ∧ y0 ≤ y ∧ y < y1)) :
    Calls Tryz.prog 28 #[vR x0 y0 x1 y1, .int .i64 x, .int .i64 y] w fun e w' => e = .returned (.bool false) ∧ w.grownBy w' none := by
  by_cases h1 : x0 ≤ x
  · by_cases h2 : x < x1
    · by_cases h3 : y0 ≤ y
      · have h4 : ¬ y < y1 := fun h4 => h ⟨h1, h2, h3, h4⟩
        clear h
        go_enter Tryz.func28, Tryz.ntmps28
        go_wp2
        go_ret
        exact ⟨rfl, gb_alloc (gb_refl _ _) _⟩
      · clear h
        go_enter Tryz.func28, Tryz.ntmps28
        go_wp2
        go_ret
        exact ⟨rfl, gb_alloc (gb_refl _ _) _⟩
    · clear h
      go_enter Tryz.func28, Tryz.ntmps28
      go_wp2
      go_ret
      exact ⟨rfl, gb_alloc (gb_refl _ _) _⟩
  · clear h
    go_enter Tryz.func28, Tryz.ntmps28
    go_wp2
    go_ret
    exact ⟨rfl, gb_alloc (gb_refl _ _) _⟩
end Go.Proofs.YtgjpohmjkhgpfaaGreat

namespace Go.Proofs.YtgjpohmjkhgpfaaGreat
open Go.RowKit

/-- bounds, columns and rows of an image of kind k -/
def Geo (k : Nat) (x0 y0 x1 y1 : Int) (n h wd : Nat) : Prop :=
  (k = 6 ∧ n = 8 ∧ x0 = -1000000000 ∧ y0 = -1000000000 ∧ x1 = 1000000000 ∧ y1 = 1000000000 ∧ h = 2000000000 ∧ wd = 2000000000) ∨
  (k < 6 ∧ x1 = x0 + wd ∧ y1 = y0 + h ∧ n = h * (wd * sz k) ∧ wd ≤ 128 ∧ h ≤ 128 ∧ -3000 ≤ x0 ∧ x0 ≤ 3000 ∧ -3000 ≤ y0 ∧ y0 ≤ 3000)
theorem Geo.ends {k n h wd : Nat} {x0 y0 x1 y1 : Int} (G : Geo k x0 y0 x1 y1 n h wd) : x1 = x0 + wd ∧ y1 = y0 + h ∧ sm x0 ∧ sm y0 ∧ sm x1 ∧ sm y1 := by
  unfold sm
  rcases G with ⟨_, _, rfl, rfl, rfl, rfl, rfl, rfl⟩ | ⟨_, rfl, rfl, _, h1, h2, h3, h4, h5, h6⟩
  · exact ⟨by omega, by omega, by omega, by omega, by omega, by omega⟩
  · exact ⟨rfl, rfl, by omega, by omega, by omega, by omega⟩
/-- its bounds as the package has them -/
def bdk (k : Nat) (far x : Int) : Int := if k = 6 then far else x

/-- an image that was made -/
def MadeI (w : World) (k : Nat) (x0 y0 x1 y1 : Int) (n : Nat) (p : Nat → Int) (e : Ending) (w' : World) : Prop :=
  ∃ t b A c, e = .returned (.iface t (.pointer (some ⟨b, 0, none⟩))) ∧ IM w' w.heap.size x0 y0 x1 y1 n p A c b k t ∧ w.grownBy w' none
theorem make_c {k n c : Nat} {X0 Y0 X1 Y1 x0 y0 x1 y1 : Int} {A : Option Addr} {p : Nat → Int} (w : World) (h : Rd w A n p) (hp : By p) (hk : k ≤ 6) (hn : n ≤ 2147483648) (h6 : k = 6 → n = 8) (hx0 : k = 6 ∨ sm X0) (hx1 : k = 6 ∨ sm X1)
    (e0 : bdk k (-1000000000) X0 = x0) (e1 : bdk k (-1000000000) Y0 = y0) (e2 : bdk k 1000000000 X1 = x1) (e3 : bdk k 1000000000 Y1 = y1) :
    Calls Tryz.prog 41 #[vI k X0 Y0 X1 Y1 A n c] w (MadeI w k x0 y0 x1 y1 n p) := by
  have hk' : k = 0 ∨ k = 1 ∨ k = 2 ∨ k = 3 ∨ k = 4 ∨ k = 5 ∨ k = 6 := by omega
  rcases hk' with rfl | rfl | rfl | rfl | rfl | rfl | rfl
  · subst e0 e1 e2 e3
    refine (make_RGBA (A := A) (n := n) (c := c) (p := p) w h hn (hx0.resolve_left (by decide)) (hx1.resolve_left (by decide))).mono ?_
    rintro e w' ⟨b, A', c', rfl, hB, hb, ho, hne, hg⟩
    exact ⟨_, b, A', c', rfl, .k0 ⟨hB, hb, ho, hne⟩, hg⟩
  · subst e0 e1 e2 e3
    refine (make_NRGBA (A := A) (n := n) (c := c) (p := p) w h hn (hx0.resolve_left (by decide)) (hx1.resolve_left (by decide))).mono ?_
    rintro e w' ⟨b, A', c', rfl, hB, hb, ho, hne, hg⟩
    exact ⟨_, b, A', c', rfl, .k1 ⟨hB, hb, ho, hne⟩, hg⟩
  · subst e0 e1 e2 e3
    refine (make_Alpha (A := A) (n := n) (c := c) (p := p) w h hn (hx0.resolve_left (by decide)) (hx1.resolve_left (by decide))).mono ?_
    rintro e w' ⟨b, A', c', rfl, hB, hb, ho, hne, hg⟩
    exact ⟨_, b, A', c', rfl, .k2 ⟨hB, hb, ho, hne⟩, hg⟩
  · subst e0 e1 e2 e3
    refine (make_Gray (A := A) (n := n) (c := c) (p := p) w h hn (hx0.resolve_left (by decide)) (hx1.resolve_left (by decide))).mono ?_
    rintro e w' ⟨b, A', c', rfl, hB, hb, ho, hne, hg⟩
    exact ⟨_, b, A', c', rfl, .k3 ⟨hB, hb, ho, hne⟩, hg⟩
  · subst e0 e1 e2 e3
    refine (make_RGBA64 (A := A) (n := n) (c := c) (p := p) w h hn (hx0.resolve_left (by decide)) (hx1.resolve_left (by decide))).mono ?_
    rintro e w' ⟨b, A', c', rfl, hB, hb, ho, hne, hg⟩
    exact ⟨_, b, A', c', rfl, .k4 ⟨hB, hb, ho, hne⟩, hg⟩
  · subst e0 e1 e2 e3
    refine (make_CMYK (A := A) (n := n) (c := c) (p := p) w h hn (hx0.resolve_left (by decide)) (hx1.resolve_left (by decide))).mono ?_
    rintro e w' ⟨b, A', c', rfl, hB, hb, ho, hne, hg⟩
    exact ⟨_, b, A', c', rfl, .k5 ⟨hB, hb, ho, hne⟩, hg⟩
  · subst e0 e1 e2 e3
    obtain rfl := h6 rfl
    refine (make_Uniform (A := A) (c := c) (p := p) w h hp).mono ?_
    rintro e w' ⟨b, rfl, hB, hb, hc, hg⟩
    exact ⟨_, b, none, 0, rfl, .k6 rfl hB hb hc rfl rfl rfl rfl, hg⟩

section
variable {w w' : World} {B n c b k h wd : Nat} {x0 y0 x1 y1 : Int} {p : Nat → Int} {A : Option Addr} {t : TypeId}
/-- where its pixels lie -/
def pbk (k : Nat) (A : Option Addr) (b : Nat) : Nat := if k = 6 then b else (A.map (·.block)).getD 0
theorem IM.src (H : IM w B x0 y0 x1 y1 n p A c b k t) (G : Geo k x0 y0 x1 y1 n h wd) (hp : By p) (hn : 0 < n) : Src w b (pbk k A b) h wd x0 y0 (srcP k wd p) k t ∧ B ≤ pbk k A b ∧ pbk k A b < w.heap.size := by
  cases H
  case k6 h0 h1 h2 h3 e1 e2 e3 e4 =>
    rcases G with ⟨_, rfl, _, _, _, _, rfl, rfl⟩ | ⟨h6, _⟩
    · exact ⟨.k6 p hp rfl h3 h2 rfl e1 e2 rfl rfl, h1, h2⟩
    · omega
  case k0 H =>
    obtain ⟨g, rfl, hg, hl⟩ := H.2.2.1.some hn
    rcases G with ⟨h6, _⟩ | ⟨_, hx, hy, hnn, l1, l2, v1, v2, v3, v4⟩
    · cases h6
    · exact ⟨.k0 (H.pic hp hx hy hnn l1 l2 v1 v2 v3 v4), hg, hl⟩
  case k1 H =>
    obtain ⟨g, rfl, hg, hl⟩ := H.2.2.1.some hn
    rcases G with ⟨h6, _⟩ | ⟨_, hx, hy, hnn, l1, l2, v1, v2, v3, v4⟩
    · cases h6
    · exact ⟨.k1 (H.pic hp hx hy hnn l1 l2 v1 v2 v3 v4), hg, hl⟩
  case k2 H =>
    obtain ⟨g, rfl, hg, hl⟩ := H.2.2.1.some hn
    rcases G with ⟨h6, _⟩ | ⟨_, hx, hy, hnn, l1, l2, v1, v2, v3, v4⟩
    · cases h6
    · exact ⟨.k2 (H.pic hp hx hy hnn l1 l2 v1 v2 v3 v4), hg, hl⟩
  case k3 H =>
    obtain ⟨g, rfl, hg, hl⟩ := H.2.2.1.some hn
    rcases G with ⟨h6, _⟩ | ⟨_, hx, hy, hnn, l1, l2, v1, v2, v3, v4⟩
    · cases h6
    · exact ⟨.k3 (H.pic hp hx hy hnn l1 l2 v1 v2 v3 v4), hg, hl⟩
  case k4 H =>
    obtain ⟨g, rfl, hg, hl⟩ := H.2.2.1.some hn
    rcases G with ⟨h6, _⟩ | ⟨_, hx, hy, hnn, l1, l2, v1, v2, v3, v4⟩
    · cases h6
    · exact ⟨.k4 (H.pic hp hx hy hnn l1 l2 v1 v2 v3 v4), hg, hl⟩
  case k5 H =>
    obtain ⟨g, rfl, hg, hl⟩ := H.2.2.1.some hn
    rcases G with ⟨h6, _⟩ | ⟨_, hx, hy, hnn, l1, l2, v1, v2, v3, v4⟩
    · cases h6
    · exact ⟨.k5 (H.pic hp hx hy hnn l1 l2 v1 v2 v3 v4), hg, hl⟩
/-- a destination -/
theorem IM.dst (H : IM w B x0 y0 x1 y1 n p A c b k t) (hk : k ≠ 6) (hn : 0 < n) : ∃ g, A = some ⟨g, 0, none⟩ ∧ B ≤ g ∧ g < w.heap.size ∧ g ≠ b := by
  cases H
  case k6 => exact absurd rfl hk
  case k0 H => obtain ⟨g, rfl, hg, hl⟩ := H.2.2.1.some hn; exact ⟨g, rfl, hg, hl, H.2.2.2 _ rfl⟩
  case k1 H => obtain ⟨g, rfl, hg, hl⟩ := H.2.2.1.some hn; exact ⟨g, rfl, hg, hl, H.2.2.2 _ rfl⟩
  case k2 H => obtain ⟨g, rfl, hg, hl⟩ := H.2.2.1.some hn; exact ⟨g, rfl, hg, hl, H.2.2.2 _ rfl⟩
  case k3 H => obtain ⟨g, rfl, hg, hl⟩ := H.2.2.1.some hn; exact ⟨g, rfl, hg, hl, H.2.2.2 _ rfl⟩
  case k4 H => obtain ⟨g, rfl, hg, hl⟩ := H.2.2.1.some hn; exact ⟨g, rfl, hg, hl, H.2.2.2 _ rfl⟩
  case k5 H => obtain ⟨g, rfl, hg, hl⟩ := H.2.2.1.some hn; exact ⟨g, rfl, hg, hl, H.2.2.2 _ rfl⟩
theorem IM.own (H : IM w B x0 y0 x1 y1 n p A c b k t) (hk : k ≠ 6) : Own w B n p A c := by
  cases H
  case k6 => exact absurd rfl hk
  case k0 H => exact H.2.2.1
  case k1 H => exact H.2.2.1
  case k2 H => exact H.2.2.1
  case k3 H => exact H.2.2.1
  case k4 H => exact H.2.2.1
  case k5 H => exact H.2.2.1
theorem IM.cell0 (H : IM w B x0 y0 x1 y1 n p A c b k t) (hk : k ≠ 6) : w.cell? ⟨b, 0, none⟩ = some (.slice A n c) := by
  cases H
  case k6 => exact absurd rfl hk
  case k0 H => exact cell_at H.2.1 rfl
  case k1 H => exact cell_at H.2.1 rfl
  case k2 H => exact cell_at H.2.1 rfl
  case k3 H => exact cell_at H.2.1 rfl
  case k4 H => exact cell_at H.2.1 rfl
  case k5 H => exact cell_at H.2.1 rfl
end

open Classical in
/-- the bytes of a drawn image -/
noncomputable def resB (dk wd : Nat) (I : Nat → Nat → Prop) (F : Nat → Nat → Nat → Int) (p : Nat → Int) : Nat → Int :=
  unP wd (sz dk) (pt I F (toP wd (sz dk) p))
end Go.Proofs.YtgjpohmjkhgpfaaGreat

namespace Go.Proofs.YtgjpohmjkhgpfaaGreat
open Go.RowKit

set_option maxRecDepth 100000 in
set_option maxHeartbeats 8000000 in
theorem dm_emp0 {td ts : TypeId} {vd vs : Value} {x0 y0 x1 y1 px py qx qy d0 d1 d2 d3 s0 s1 s2 s3 b0 b1 b2 b3 p0 p1 q0 q1 op : Int} (w : World)
    (hD : Bd w td vd d0 d1 d2 d3) (hS : Bd w ts vs s0 s1 s2 s3)
    (hC : Cl0 x0 y0 x1 y1 px py qx qy d0 d1 d2 d3 s0 s1 s2 s3 b0 b1 b2 b3 p0 p1 q0 q1) (hE : emp b0 b1 b2 b3 = true) :
    Calls Tryz.prog 42 #[.iface td vd, vR x0 y0 x1 y1, .iface ts vs, vP px py, .nilIface, vP qx qy, .int .i64 op] w fun e w' => e = .returned (.tuple #[]) ∧ w.grownBy w' none := by
  have HC := hid hC
  have Hem := hid hE
  have HD := hid hD
  have HS := hid hS
  clear hC hE hD hS
  go_enter Tryz.func42, Tryz.ntmps42
  go_wp2_with fail
  refine (clip0_k HC.out (w0 := w) (gb_alloc (gb_alloc (gb_alloc (gb_refl _ _) _) _) _) (Nat.le_refl _) (by omega) (by omega) (by omega) (by omega) (by omega) HD.out HS.out (cp_start _ _ _ _ _ _ _ _ _)).mono ?_
  rintro e w1 ⟨rfl, hg, ⟨c0, c1, c2, c3, k0, k1, l0, l1, fr, fp, fq⟩⟩
  clear fr fp fq k0 k1 l0 l1
  have Hg := hid hg
  clear hg
  go_wp2_with fail
  refine (empty_c b0 b1 b2 b3 _).mono ?_
  rintro e w2 ⟨rfl, rfl⟩
  rw [Hem.out]
  go_wp2_with fail
  exact bodyPost_ret (v := .tuple #[]) (by simp [results, Tryz.results42]) rfl ⟨rfl, gb_alloc Hg.out _⟩
end Go.Proofs.YtgjpohmjkhgpfaaGreat

namespace Go.Proofs.YtgjpohmjkhgpfaaGreat
open Go.RowKit

theorem Own.congr {w : World} {B n c : Nat} {p q : Nat → Int} {A : Option Addr} (h : Own w B n p A c) (e : ∀ i, i < n → p i = q i) : Own w B n q A c := by
  rcases h with h | ⟨g, C, e', hB, hb, h1, h2, hC⟩
  · exact .inl h
  · exact .inr ⟨g, C, e', hB, hb, h1, h2, fun i hi => by rw [hC i hi, e i hi]⟩
/-- what drawing leaves -/
def DMout (w : World) (B n c : Nat) (A : Option Addr) (q : Nat → Int) (e : Ending) (w' : World) : Prop :=
  e = .returned (.tuple #[]) ∧ w.grownBy w' (A.map (·.block)) ∧ Own w' B n q A c
theorem res_in {dk wd h n : Nat} {I J : Nat → Nat → Prop} {F G : Nat → Nat → Nat → Int} {p : Nat → Int} (hn : n = h * (wd * sz dk)) (hI : ∀ r c, r < h → c < wd → (I r c ↔ J r c)) (hF : ∀ r c, r < h → c < wd → I r c → F r c = G r c) :
    ∀ i, i < n → resB dk wd I F p i = resB dk wd J G p i := by
  intro i hi
  obtain ⟨l1, l2, l3⟩ := un_lt (h := h) (wd := wd) (k := sz dk) (i := i) (by omega)
  unfold resB unP
  by_cases hj : I (i / (wd * sz dk)) (i % (wd * sz dk) / sz dk)
  · rw [pt_pos hj, pt_pos ((hI _ _ l1 l2).1 hj), hF _ _ l1 l2 hj]
  · rw [pt_neg hj, pt_neg (fun h => hj ((hI _ _ l1 l2).2 h))]
theorem res_none {dk wd h n : Nat} {I : Nat → Nat → Prop} {F : Nat → Nat → Nat → Int} {p : Nat → Int} (hn : n = h * (wd * sz dk)) (hI : ∀ r c, r < h → c < wd → ¬ I r c) : ∀ i, i < n → p i = resB dk wd I F p i := by
  intro i hi
  obtain ⟨l1, l2, l3⟩ := un_lt (h := h) (wd := wd) (k := sz dk) (i := i) (by omega)
  unfold resB
  rw [← un_to wd (sz dk) p i]
  unfold unP
  rw [pt_neg (hI _ _ l1 l2)]
/-- the source's pixel that is drawn onto the pixel (r, c) -/
def srcAt (ks sw : Nat) (s : Nat → Int) (x0 y0 px py dx0 dy0 sx0 sy0 : Int) (r c : Nat) : Nat → Int :=
  srcP ks sw s (dy0 + r + (py - y0) - sy0).toNat (dx0 + c + (px - x0) - sx0).toNat
theorem sz_pos (k : Nat) : 0 < sz k := by unfold sz; split <;> omega

theorem mdm0_of {w : World} {B n c b kd dh dw ks B' n' c' b' sh sw op : Nat} {dx0 dy0 dx1 dy1 sx0 sy0 sx1 sy1 x0 y0 x1 y1 px py : Int} {p s : Nat → Int} {A A' : Option Addr} {td ts : TypeId} (hkd : kd < 6)
    (Hd : IM w B dx0 dy0 dx1 dy1 n p A c b kd td) (Hs : IM w B' sx0 sy0 sx1 sy1 n' s A' c' b' ks ts) (GD : Geo kd dx0 dy0 dx1 dy1 n dh dw) (GS : Geo ks sx0 sy0 sx1 sy1 n' sh sw) (hp : By p) (hs : By s)
    (m1 : sm x0) (m2 : sm y0) (m3 : sm px) (m4 : sm py) (m5 : sm (x0 - px)) (m6 : sm (y0 - py))
    (HX : ∀ {rx ry xe ye ax ay : Nat} {b0 b1 b2 b3 p0 p1 q0 q1 : Int} (g : Nat), A = some ⟨g, 0, none⟩ → Src w b g dh dw dx0 dy0 (toP dw (sz kd) p) kd td → Src w b' (pbk ks A' b') sh sw sx0 sy0 (srcP ks sw s) ks ts →
      Cl0 x0 y0 x1 y1 px py 0 0 dx0 dy0 (dx0 + dw) (dy0 + dh) sx0 sy0 (sx0 + sw) (sy0 + sh) b0 b1 b2 b3 p0 p1 q0 q1 → Rct b0 b1 b2 b3 dx0 dy0 rx ry xe ye dh dw → Plc p0 p1 sx0 sy0 ax ay rx ry xe ye sh sw →
      Calls Tryz.prog 42 #[.iface td (.pointer (some ⟨b, 0, none⟩)), vR x0 y0 x1 y1, .iface ts (.pointer (some ⟨b', 0, none⟩)), vP px py, .nilIface, vP 0 0, .int .i64 op] w
        (Drawn w g (sz kd) dh dw rx ry xe ye (fun r c => px0 kd ks op (toP dw (sz kd) p r c) (srcP ks sw s (ay + (r - ry)) (ax + (c - rx)))) (toP dw (sz kd) p))) :
    Calls Tryz.prog 42 #[.iface td (.pointer (some ⟨b, 0, none⟩)), vR x0 y0 x1 y1, .iface ts (.pointer (some ⟨b', 0, none⟩)), vP px py, .nilIface, vP 0 0, .int .i64 op] w
      (DMout w B n c A (resB kd dw (In0 x0 y0 x1 y1 px py dx0 dy0 sx0 sy0 sh sw) (fun r c => px0 kd ks op (toP dw (sz kd) p r c) (srcAt ks sw s x0 y0 px py dx0 dy0 sx0 sy0 r c)) p)) := by
  obtain ⟨rfl, rfl, g1, g2, g3, g4⟩ := GD.ends
  obtain ⟨rfl, rfl, k1, k2, k3, k4⟩ := GS.ends
  rcases GD with ⟨h6, _⟩ | ⟨-, -, -, hn, l1, l2, v1, v2, v3, v4⟩
  · omega
  have m0 : sm 0 := by unfold sm; omega
  obtain ⟨b0, b1, b2, b3, p0, p1, q0, q1, hC⟩ := cl0_ex (x0 := x0) (y0 := y0) (x1 := x1) (y1 := y1) (px := px) (py := py) (qx := 0) (qy := 0) (d0 := dx0) (d1 := dy0) (d2 := dx0 + dw) (d3 := dy0 + dh) (s0 := sx0) (s1 := sy0) (s2 := sx0 + sw) (s3 := sy0 + sh)
    m1 m2 m3 m4 m0 m0 k1 k2 k3 k4 m5 m6 (by omega) (by omega) (by omega) (by omega)
  cases hE : emp b0 b1 b2 b3
  · obtain ⟨rx, ry, xe, ye, ax, ay, hR, hP, hI, hat⟩ := cl0_geo hC hE
    have hR' := hR
    obtain ⟨-, -, -, -, r1, r2, r3, r4⟩ := hR'
    have hP' := hP
    obtain ⟨-, -, r5, r6⟩ := hP'
    have hpos : 0 < n := by
      rw [hn]; exact Nat.mul_pos (by omega) (Nat.mul_pos (by omega) (sz_pos kd))
    have hpos' : 0 < n' := by
      rcases GS with ⟨_, rfl, _⟩ | ⟨-, -, -, hn', _⟩
      · omega
      · rw [hn']; exact Nat.mul_pos (by omega) (Nat.mul_pos (by omega) (sz_pos ks))
    obtain ⟨g, rfl, hg, hgl, hgb⟩ := Hd.dst (by omega) hpos
    obtain ⟨S1, -, -⟩ := Hd.src (h := dh) (wd := dw) (.inr ⟨hkd, rfl, rfl, hn, l1, l2, v1, v2, v3, v4⟩) hp hpos
    obtain ⟨S2, -, -⟩ := Hs.src GS hs hpos'
    have e1 : pbk kd (some ⟨g, 0, none⟩) b = g := by unfold pbk; rw [if_neg (by omega)]; rfl
    have e2 : srcP kd dw p = toP dw (sz kd) p := by unfold srcP; rw [if_neg (by omega)]
    rw [e1, e2] at S1
    refine (HX g rfl S1 S2 hC hR hP).mono ?_
    rintro e w' ⟨rfl, h1, h2⟩
    have hle := (Hd.own (by omega)).le
    refine ⟨rfl, h1, (own_pix h2 hg hn hle.1 hle.2).congr ?_⟩
    refine res_in hn hI ?_
    intro r c hr hc hi
    obtain ⟨t1, t2⟩ := hat r c hi
    unfold srcAt
    rw [← t1, ← t2, Int.toNat_natCast, Int.toNat_natCast]
  · refine (dm_emp0 w Hd.bd Hs.bd hC hE).mono ?_
    rintro e w' ⟨rfl, hg⟩
    refine ⟨rfl, gb_weak hg _, ((Hd.own (by omega)).kept0 hg).congr ?_⟩
    exact res_none hn (cl0_emp hC hE)
end Go.Proofs.YtgjpohmjkhgpfaaGreat

namespace Go.Proofs.YtgjpohmjkhgpfaaGreat
open Go.RowKit

theorem next_row {ro q st : Nat} (h : ro = q * st) : ro + st = (q + 1) * st := by rw [h, Nat.add_mul, Nat.one_mul]
/-- n bytes of a slice, as cells -/
def bytesOf (V : Nat → Int) (n : Nat) : List Value := (List.range n).map fun j => .int .u8 (V j)
theorem bytesOf_length (V : Nat → Int) (n : Nat) : (bytesOf V n).length = n := by simp [bytesOf]
theorem bytesOf_get {V : Nat → Int} {n j : Nat} (h : j < n) : (bytesOf V n)[j]? = some (.int .u8 (V j)) := by simp [bytesOf, h]
theorem bytesOf_some {V : Nat → Int} {n j : Nat} {v : Value} (h : (bytesOf V n)[j]? = some v) : j < n ∧ v = .int .u8 (V j) := by
  have hj : j < n := by
    rcases Nat.lt_or_ge j n with h' | h'
    · exact h'
    · rw [List.getElem?_eq_none (by rw [bytesOf_length]; exact h')] at h; cases h
  rw [bytesOf_get hj] at h
  exact ⟨hj, by injection h with h; exact h.symm⟩

section
variable {w : World} {b h wd k : Nat} {F P : Nat → Nat → Nat → Int} {dn dn' : Nat → Nat → Prop}

theorem row_get {C : Array Value} {off i : Nat} {cs : List Value} (hfit : off + cs.length ≤ C.size) :
    (C.toList.take off ++ (cs ++ C.toList.drop (off + cs.length))).toArray[i]? = if off ≤ i ∧ i < off + cs.length then cs[i - off]? else C[i]? := by
  rw [List.getElem?_toArray]
  by_cases h1 : i < off
  · rw [List.getElem?_append_left (by simp; omega), if_neg (by omega), List.getElem?_take, if_pos h1]; simp
  · rw [List.getElem?_append_right (by simp; omega)]
    have e : (C.toList.take off).length = off := by simp; omega
    rw [e]
    by_cases h2 : i < off + cs.length
    · rw [if_pos ⟨by omega, h2⟩, List.getElem?_append_left (by omega)]
    · rw [if_neg (by omega), List.getElem?_append_right (by omega), List.getElem?_drop, show off + cs.length + (i - off - cs.length) = i by omega]; simp

theorem gb_setRow {a : World} {g : Nat} (h : a.grownBy w (some g)) (cs : Array Value) : a.grownBy (w.setRow g cs) (some g) :=
  ⟨h.os, h.tape, h.output, by simpa [World.setRow] using h.size, fun i hi hne => (setRow_other w g i cs (fun e => hne (by rw [e]))).trans (h.block i hi hne)⟩

/-- copy: n pixels of row r from column c0 on -/
theorem copy_pix {R : Program} {w0 : World} (dT sT ty elem : TypeId) (hu : R.underlying dT = some (.slice elem)) (hsz : (R.info? elem).map (·.size) = some 1)
    (r c0 n off dLen dCap ps soff sLen sCap : Nat)
    (H : PixI w b h wd k (pt dn F P)) (hr : r < h) (hc : c0 + n ≤ wd) (hn : 0 < n) (hk : 0 < k) (hoff : off = r * (wd * k) + c0 * k) (hl1 : sLen = n * k) (hl2 : dLen = n * k)
    (hsrc : ∀ c ch, c < n → ch < k → w.cell? ⟨ps, soff + (c * k + ch), none⟩ = some (.int .u8 (F r (c0 + c) ch)))
    (hdn : ∀ r' c', dn' r' c' ↔ (dn r' c' ∨ (r' = r ∧ c0 ≤ c' ∧ c' < c0 + n)))
    (hgb : w0.grownBy w (some b)) :
    ∃ w', (Builtin.copy_ #[dT, sT] ty #[.slice (some ⟨b, off, none⟩) dLen dCap, .slice (some ⟨ps, soff, none⟩) sLen sCap]).run R w = .ok (goInt (n * k : Nat)) w' ∧ w0.grownBy w' (some b) ∧ PixI w' b h wd k (pt dn' F P) ∧ (∀ q o, q ≠ b → w'.cell? ⟨q, o, none⟩ = w.cell? ⟨q, o, none⟩) := by
  obtain ⟨C, hC, hg⟩ := H
  have hsz' : off + n * k ≤ C.size := by
    have h1 := hg r (c0 + n - 1) (k - 1) hr (by omega) (by omega)
    have h2 : r * (wd * k) + (c0 + n - 1) * k + (k - 1) < C.size := by
      rcases Nat.lt_or_ge (r * (wd * k) + (c0 + n - 1) * k + (k - 1)) C.size with h' | h'
      · exact h'
      · rw [Array.getElem?_eq_none h'] at h1; cases h1
    have h3 : c0 * k + n * k = (c0 + n - 1) * k + k := by rw [← Nat.add_mul]; conv => { rhs; rhs; rw [← Nat.one_mul k] }; rw [← Nat.add_mul]; congr 1; omega
    omega
  obtain ⟨V, hV⟩ : ∃ V : Nat → Int, V = fun j => F r (c0 + j / k) (j % k) := ⟨_, rfl⟩
  have dm : ∀ j, j < n * k → j / k < n ∧ j % k < k ∧ j / k * k + j % k = j := fun j hj =>
    ⟨Nat.div_lt_of_lt_mul (by rw [Nat.mul_comm]; exact hj), Nat.mod_lt _ hk, by rw [Nat.mul_comm]; exact Nat.div_add_mod j k⟩
  have hlen := bytesOf_length V (n * k)
  have hrun := run_copy_row (P := R) w dT sT ty elem b off dLen dCap ⟨ps, soff, none⟩ sLen sCap C _ (bytesOf V (n * k)) hu hsz hC (by rw [hlen, hl1, hl2]; exact (Nat.min_self _).symm) ?_ (by rw [hlen]; exact hsz') ?_
  rotate_left
  · intro j v hj
    obtain ⟨hj', rfl⟩ := bytesOf_some hj
    obtain ⟨q1, q2, q3⟩ := dm j hj'
    have := hsrc (j / k) (j % k) q1 q2
    rw [q3] at this
    have ea : (⟨ps, soff, none⟩ : Addr).add j = ⟨ps, soff + j, none⟩ := by unfold Addr.add; split <;> simp_all
    rw [hV, ea]; exact this
  · intro v hv
    simp only [bytesOf, List.mem_map] at hv
    obtain ⟨j, _, rfl⟩ := hv
    rfl
  · rw [List.append_assoc] at hrun
    refine ⟨_, by rw [hrun, hlen], gb_setRow hgb _, ⟨_, setRow_heap w b _ _ _ _ hC, fun r' c' ch' hr' hc' hch' => ?_⟩, fun q o hq => World.cell?_of_block (setRow_other w b q _ hq)⟩
    have hrg := row_get (C := C) (off := off) (i := r' * (wd * k) + c' * k + ch') (cs := bytesOf V (n * k)) (by rw [hlen]; exact hsz')
    rw [hlen] at hrg
    rw [hrg]
    by_cases e : r' = r ∧ c0 ≤ c' ∧ c' < c0 + n
    · obtain ⟨rfl, e1, e2⟩ := e
      have e3 : c' * k = c0 * k + (c' - c0) * k := by rw [← Nat.add_mul]; congr 1; omega
      have e4 : (c' - c0) * k + ch' < n * k := by
        have := Nat.mul_le_mul_right k (show c' - c0 + 1 ≤ n by omega)
        rw [Nat.add_mul, Nat.one_mul] at this; omega
      rw [if_pos (by omega), show r' * (wd * k) + c' * k + ch' - off = (c' - c0) * k + ch' by omega, bytesOf_get e4, hV]
      dsimp only
      rw [pt_pos ((hdn _ _).2 (.inr ⟨rfl, e1, e2⟩)), Nat.mul_comm (c' - c0) k, Nat.mul_add_div hk, Nat.div_eq_of_lt hch', Nat.mul_add_mod, Nat.mod_eq_of_lt hch', show c0 + (c' - c0 + 0) = c' by omega]
    · have hd' : dn' r' c' ↔ dn r' c' := by rw [hdn]; exact ⟨fun h => h.resolve_right e, .inl⟩
      rw [pt_iff hd', if_neg, hg r' c' ch' hr' hc' hch']
      intro hin
      apply e
      -- the cell lies in row r, between the columns
      have e5 : r' * (wd * k) + c' * k + ch' - off < n * k := by omega
      obtain ⟨q1, q2, q3⟩ := dm _ e5
      have e6 : r' * (wd * k) + c' * k + ch' = r * (wd * k) + (c0 + (r' * (wd * k) + c' * k + ch' - off) / k) * k + (r' * (wd * k) + c' * k + ch' - off) % k := by
        rw [Nat.add_mul]; omega
      obtain ⟨g1, g2, -⟩ := pix_inj hc' hch' (Nat.lt_of_lt_of_le (Nat.add_lt_add_left q1 _) hc) q2 e6
      exact ⟨g1, by rw [g2]; exact Nat.le_add_right _ _, by rw [g2]; exact Nat.add_lt_add_left q1 _⟩
/-- the source, which may be the image itself -/
def Alias (w : World) (pd ps dh dw sh sw k : Nat) (D S : Nat → Nat → Nat → Int) : Prop :=
  PixI w ps sh sw k S ∧ (ps ≠ pd ∨ (ps = pd ∧ sh = dh ∧ sw = dw ∧ S = D))
theorem src_cell {w0 w : World} {pd ps dh dw sh sw k : Nat} {F D S : Nat → Nat → Nat → Int} {dn : Nat → Nat → Prop} (hal : Alias w0 pd ps dh dw sh sw k D S) (hgb : w0.grownBy w (some pd))
    (H : PixI w pd dh dw k (pt dn F D)) {r c ch i : Nat} (hr : r < sh) (hc : c < sw) (hch : ch < k) (hnd : ps = pd → ¬ dn r c) (hi : i = r * (sw * k) + c * k + ch) : w.cell? ⟨ps, i, none⟩ = some (.int .u8 (S r c ch)) := by
  obtain ⟨hp, h | ⟨rfl, rfl, rfl, rfl⟩⟩ := hal
  · exact (hp.kept (gb_block hgb hp.lt h)).cell hr hc hch hi
  · rw [H.cell hr hc hch hi, pt_neg (hnd rfl)]
end
end Go.Proofs.YtgjpohmjkhgpfaaGreat
