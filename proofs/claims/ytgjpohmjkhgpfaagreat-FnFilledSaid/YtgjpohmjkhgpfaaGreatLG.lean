/- Two bytes a number, four times. No condition. -/
import Derived.Test.YtgjpohmjkhgpfaaGreatLD
import Derived.Test.YtgjpohmjkhgpfaaGreatW2
import Derived.Deep.RegionWith
set_option linter.unusedSimpArgs false
set_option linter.unusedVariables false
namespace Go.Proofs.YtgjpohmjkhgpfaaGreat
open Go.RowKit

/-- a number of two bytes -/
def wd (p : Nat → Int) (i : Nat) : Int := p (2 * i) * 256 + p (2 * i + 1)
/-- four cells of one's own -/
def Cells4 (w : World) (b : Nat) (v0 v1 v2 v3 : Int) : Prop := w.cell? ⟨b, 0, none⟩ = some (.int .i64 v0) ∧ w.cell? ⟨b, 1, none⟩ = some (.int .i64 v1) ∧ w.cell? ⟨b, 2, none⟩ = some (.int .i64 v2) ∧ w.cell? ⟨b, 3, none⟩ = some (.int .i64 v3) ∧
  w.frozen? ⟨b, 0, none⟩ = false ∧ w.frozen? ⟨b, 1, none⟩ = false ∧ w.frozen? ⟨b, 2, none⟩ = false ∧ w.frozen? ⟨b, 3, none⟩ = false

set_option maxRecDepth 100000 in
set_option maxHeartbeats 4000000 in
theorem wide_c {A : Addr} {c : Nat} {p : Nat → Int} (w : World) (hp : By p) (h : ∀ i, i < 8 → w.cell? (A.add i) = some (.int .u8 (p i))) :
    Calls Tryz.prog 40 #[.slice (some A) 8 c] w fun e w' => e = .returned (.agg #[.int .i64 (wd p 0), .int .i64 (wd p 1), .int .i64 (wd p 2), .int .i64 (wd p 3)]) ∧ w.grownBy w' none := by
  have hb : A.block < w.heap.size := World.block_lt_of_cell? w _ (h 0 (by omega))
  obtain ⟨ab, ao, ap⟩ := A
  have H := hid h
  clear h
  have o0 := or64 (hp 0) (hp 1)
  have o1 := or64 (hp 2) (hp 3)
  have o2 := or64 (hp 4) (hp 5)
  have o3 := or64 (hp 6) (hp 7)
  have r0 := hp 0
  have r1 := hp 2
  have r2 := hp 4
  have r3 := hp 6
  have r4 := hp 1
  have r5 := hp 3
  have r6 := hp 5
  have r7 := hp 7
  go_enter Tryz.func40, Tryz.ntmps40
  go_wp2
  go_loopw [5] (fun u wr => w.grownBy wr none ∧ w.heap.size + 1 < wr.heap.size ∧ Cells4 wr w.heap.size 0 0 0 0 ∧
    ((u = .int .i64 0 ∧ Cells4 wr (w.heap.size + 1) 0 0 0 0) ∨ (u = .int .i64 1 ∧ Cells4 wr (w.heap.size + 1) (wd p 0) 0 0 0) ∨ (u = .int .i64 2 ∧ Cells4 wr (w.heap.size + 1) (wd p 0) (wd p 1) 0 0) ∨ (u = .int .i64 3 ∧ Cells4 wr (w.heap.size + 1) (wd p 0) (wd p 1) (wd p 2) 0) ∨ (u = .int .i64 4 ∧ Cells4 wr (w.heap.size + 1) (wd p 0) (wd p 1) (wd p 2) (wd p 3)))) (fun u _ => (4 - intOf u).toNat)
  case atStart => exact ⟨gb_alloc (gb_alloc (gb_refl _ _) _) _, by simp, ⟨by go_simp, by go_simp, by go_simp, by go_simp, by go_simp, by go_simp, by go_simp, by go_simp⟩, .inl ⟨rfl, by go_simp, by go_simp, by go_simp, by go_simp, by go_simp, by go_simp, by go_simp, by go_simp⟩⟩
  case round =>
    obtain ⟨hg, hz, hc2, hrel⟩ := hrel
    have HG := hid hg
    clear hg
    have hbr := Nat.lt_of_lt_of_le hb HG.out.size
    have k0 : wr.cell? ⟨ab, ao, ap⟩ = some (.int .u8 (p 0)) := (gb_cell0 HG.out hb).trans (H.out 0 (by omega))
    have kk : ∀ i, 0 < i → i < 8 → wr.cell? ⟨ab, ao + i, none⟩ = some (.int .u8 (p i)) := fun i h0 hi => by
      have e : (⟨ab, ao, ap⟩ : Addr).add i = ⟨ab, ao + i, none⟩ := by unfold Addr.add; rw [if_neg (by omega)]
      rw [← e]; exact (gb_cell0 HG.out (by rw [e]; exact hb)).trans (H.out i hi)
    have k1 := kk 1 (by omega) (by omega)
    have k2 := kk 2 (by omega) (by omega)
    have k3 := kk 3 (by omega) (by omega)
    have k4 := kk 4 (by omega) (by omega)
    have k5 := kk 5 (by omega) (by omega)
    have k6 := kk 6 (by omega) (by omega)
    have k7 := kk 7 (by omega) (by omega)
    clear kk
    obtain ⟨z0, z1, z2, z3, y0, y1, y2, y3⟩ := hc2
    rcases hrel with ⟨rfl, c0, c1, c2, c3, d0, d1, d2, d3⟩ | ⟨rfl, c0, c1, c2, c3, d0, d1, d2, d3⟩ | ⟨rfl, c0, c1, c2, c3, d0, d1, d2, d3⟩ | ⟨rfl, c0, c1, c2, c3, d0, d1, d2, d3⟩ | ⟨rfl, c0, c1, c2, c3, d0, d1, d2, d3⟩
    · have ev : wd p 0 = p 0 * 256 + p 1 := rfl
      go_wp2
      go_region_with (fail)
      all_goals (go_wp2; refine ⟨⟨gb_drew (gb_setCell HG.out (.inr (by simp)) _), by go_simp, ⟨by go_simp, by go_simp, by go_simp, by go_simp, by go_simp, by go_simp, by go_simp, by go_simp⟩, .inr (.inl ⟨rfl, by go_simp, by go_simp, by go_simp, by go_simp, by go_simp, by go_simp, by go_simp, by go_simp⟩)⟩, by simp [intOf]⟩)
    · have ev : wd p 1 = p 2 * 256 + p 3 := rfl
      go_wp2
      go_region_with (fail)
      all_goals (go_wp2; refine ⟨⟨gb_drew (gb_setCell HG.out (.inr (by simp)) _), by go_simp, ⟨by go_simp, by go_simp, by go_simp, by go_simp, by go_simp, by go_simp, by go_simp, by go_simp⟩, .inr (.inr (.inl ⟨rfl, by go_simp, by go_simp, by go_simp, by go_simp, by go_simp, by go_simp, by go_simp, by go_simp⟩))⟩, by simp [intOf]⟩)
    · have ev : wd p 2 = p 4 * 256 + p 5 := rfl
      go_wp2
      go_region_with (fail)
      all_goals (go_wp2; refine ⟨⟨gb_drew (gb_setCell HG.out (.inr (by simp)) _), by go_simp, ⟨by go_simp, by go_simp, by go_simp, by go_simp, by go_simp, by go_simp, by go_simp, by go_simp⟩, .inr (.inr (.inr (.inl ⟨rfl, by go_simp, by go_simp, by go_simp, by go_simp, by go_simp, by go_simp, by go_simp, by go_simp⟩)))⟩, by simp [intOf]⟩)
    · have ev : wd p 3 = p 6 * 256 + p 7 := rfl
      go_wp2
      go_region_with (fail)
      all_goals (go_wp2; refine ⟨⟨gb_drew (gb_setCell HG.out (.inr (by simp)) _), by go_simp, ⟨by go_simp, by go_simp, by go_simp, by go_simp, by go_simp, by go_simp, by go_simp, by go_simp⟩, .inr (.inr (.inr (.inr ⟨rfl, by go_simp, by go_simp, by go_simp, by go_simp, by go_simp, by go_simp, by go_simp, by go_simp⟩)))⟩, by simp [intOf]⟩)
    · go_wp2
      exact bodyPost_ret (v := .agg #[.int .i64 (wd p 0), .int .i64 (wd p 1), .int .i64 (wd p 2), .int .i64 (wd p 3)]) (by simp [results, Tryz.results40, go_sem, z0, z1, z2, z3]) rfl ⟨rfl, by (repeat (first | exact HG.out | refine gb_setCell ?_ (.inr (by simp)) _))⟩
end Go.Proofs.YtgjpohmjkhgpfaaGreat
