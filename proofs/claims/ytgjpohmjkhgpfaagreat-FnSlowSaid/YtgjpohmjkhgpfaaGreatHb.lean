/- Parts of the proof: what the functions of the package and of the reference do (LK, LF, LC, O1, N9, N10, LT0). No condition but those that each theorem names. -/
import Derived.Test.YtgjpohmjkhgpfaaGreatD06
import Derived.Test.YtgjpohmjkhgpfaaGreatD04
import Derived.Test.YtgjpohmjkhgpfaaGreatD02
import Derived.Test.YtgjpohmjkhgpfaaGreatD14
import Derived.Test.YtgjpohmjkhgpfaaGreatHa
import Derived.Deep.RegionHeld3
import Derived.Deep.RegionWith
import Derived.Deep.DeepCutAuto
import Derived.Deep.CutBlock
import Derived.IntWalk
import Derived.ProofKit
import Derived.OpenShut
import Derived.ChangeOld
import Derived.Below
import Derived.Deep.Fields
set_option linter.unusedSimpArgs false
set_option linter.unusedVariables false
namespace Go.Proofs.YtgjpohmjkhgpfaaGreat
open Go.RowKit

set_option maxRecDepth 100000 in
set_option maxHeartbeats 4000000 in
theorem target_c {k x0 y0 x1 y1 : Int} {A : Option Addr} {n c : Nat} {p : Nat → Int} (w : World) (h : Rd w A n p) (hp : By p) (hn : n ≤ 2147483647) (hc : n ≤ c) (hc2 : c ≤ 9223372036854775807) :
    Calls Tryz.prog 15 #[vI k x0 y0 x1 y1 A n c] w (BoolOut w (∃ kk : Nat, k = kk ∧ (kk = 0 ∨ kk = 4 ∨ kk = 2) ∧ VK kk x0 y0 x1 y1 n p)) := by
  have H := hid h
  have HP := hid hp
  clear h hp
  by_cases hk : k = 0 ∨ k = 4 ∨ k = 2
  · rcases hk with rfl | rfl | rfl
    all_goals
      go_enter Tryz.func15, Tryz.ntmps15
      go_wp2_with fail
      refine (valid_c _ (H.out.kept0 (gb_alloc (gb_refl _ _) _)) HP.out hn hc hc2).mono ?_
      rintro e w1 ⟨b, rfl, hb, hg⟩
      have HB := hid hb
      have HG := hid (gb_trans (gb_alloc (gb_refl w none) _) hg)
      clear hb hg
      go_wp2
      go_ret
      refine ⟨b, rfl, fun h => ?_, HG.out⟩
      obtain ⟨kk, e, hv⟩ := HB.out h
      exact ⟨kk, e, by omega, hv⟩
  · have b0 : (k == 0) = false := beq_eq_false_iff_ne.2 (fun e => hk (.inl e))
    have b4 : (k == 4) = false := beq_eq_false_iff_ne.2 (fun e => hk (.inr (.inl e)))
    have b2 : (k == 2) = false := beq_eq_false_iff_ne.2 (fun e => hk (.inr (.inr e)))
    clear hk
    go_enter Tryz.func15, Tryz.ntmps15
    go_wp2
    go_ret
    exact ⟨false, rfl, fun h => Bool.noConfusion h, gb_alloc (gb_refl _ _) _⟩

end Go.Proofs.YtgjpohmjkhgpfaaGreat

namespace Go.Proofs.YtgjpohmjkhgpfaaGreat
open Go.RowKit

def FineOut (w : World) (n : Nat) (l : Nat → Int) (e : Ending) (w' : World) : Prop := (∃ b, e = .returned (.bool b) ∧ (b = true → ∀ i, i < n → nr (l i))) ∧ w = w'
set_option maxRecDepth 100000 in
set_option maxHeartbeats 4000000 in
theorem fine_c {g n c : Nat} {l : Nat → Int} (w : World) (hc : ∀ i, i < n → w.cell? ⟨g, i, none⟩ = some (.int .i64 (l i))) (hn : n ≤ 100) :
    Calls Tryz.prog 17 #[.slice (some ⟨g, 0, none⟩) n c] w (FineOut w n l) := by
  have HC := hid hc
  clear hc
  go_enter Tryz.func17, Tryz.ntmps17
  go_wp2
  go_loop [7] (fun u => ∃ j : Nat, j ≤ n ∧ u = .int .i64 j ∧ ∀ i, i < j → nr (l i)) (fun u => n - (intOf u).toNat)
  case atStart => exact ⟨0, by omega, rfl, fun i hi => absurd hi (by omega)⟩
  case round =>
    obtain ⟨j, hj, rfl, hl⟩ := hrel
    have HL := hid hl
    clear hl
    by_cases hlt : j < n
    · have k0 := HC.out j hlt
      by_cases g1 : l j < -1000
      · go_wp2
        go_ret
        exact ⟨⟨false, rfl, fun h => Bool.noConfusion h⟩, rfl⟩
      · by_cases g2 : 1000 < l j
        · go_wp2
          go_ret
          exact ⟨⟨false, rfl, fun h => Bool.noConfusion h⟩, rfl⟩
        · go_wp2
          go_round
          case rel =>
            refine ⟨j + 1, by omega, by go_num, fun i hi => ?_⟩
            by_cases e : i < j
            · exact HL.out i e
            · obtain rfl : i = j := by omega
              exact ⟨by omega, by omega⟩
          case measure => simp [intOf]; omega
    · go_wp2
      go_ret
      exact ⟨⟨true, rfl, fun _ i hi => HL.out i (by omega)⟩, rfl⟩
end Go.Proofs.YtgjpohmjkhgpfaaGreat

namespace Go.Proofs.YtgjpohmjkhgpfaaGreat
open Go.RowKit

theorem base_kept {w w' : World} {bd br bs : Nat} {x0 y0 x1 y1 d0 d1 d2 d3 s0 s1 s2 s3 : Int} (h : w.cell? ⟨bd, 0, none⟩ = some (.int .i64 d0) ∧ w.cell? ⟨bd, 1, none⟩ = some (.int .i64 d1) ∧ w.cell? ⟨bd, 2, none⟩ = some (.int .i64 d2) ∧ w.cell? ⟨bd, 3, none⟩ = some (.int .i64 d3) ∧ w.cell? ⟨br, 0, none⟩ = some (.int .i64 x0) ∧ w.cell? ⟨br, 1, none⟩ = some (.int .i64 y0) ∧ w.cell? ⟨br, 2, none⟩ = some (.int .i64 x1) ∧ w.cell? ⟨br, 3, none⟩ = some (.int .i64 y1) ∧ w.cell? ⟨bs, 0, none⟩ = some (.int .i64 s0) ∧ w.cell? ⟨bs, 1, none⟩ = some (.int .i64 s1) ∧ w.cell? ⟨bs, 2, none⟩ = some (.int .i64 s2) ∧ w.cell? ⟨bs, 3, none⟩ = some (.int .i64 s3)) (hg : w.grownBy w' none) : w'.cell? ⟨bd, 0, none⟩ = some (.int .i64 d0) ∧ w'.cell? ⟨bd, 1, none⟩ = some (.int .i64 d1) ∧ w'.cell? ⟨bd, 2, none⟩ = some (.int .i64 d2) ∧ w'.cell? ⟨bd, 3, none⟩ = some (.int .i64 d3) ∧ w'.cell? ⟨br, 0, none⟩ = some (.int .i64 x0) ∧ w'.cell? ⟨br, 1, none⟩ = some (.int .i64 y0) ∧ w'.cell? ⟨br, 2, none⟩ = some (.int .i64 x1) ∧ w'.cell? ⟨br, 3, none⟩ = some (.int .i64 y1) ∧ w'.cell? ⟨bs, 0, none⟩ = some (.int .i64 s0) ∧ w'.cell? ⟨bs, 1, none⟩ = some (.int .i64 s1) ∧ w'.cell? ⟨bs, 2, none⟩ = some (.int .i64 s2) ∧ w'.cell? ⟨bs, 3, none⟩ = some (.int .i64 s3) := by
  obtain ⟨c0, c1, c2, c3, c4, c5, c6, c7, c8, c9, c10, c11⟩ := h
  have k := fun {b i : Nat} {v : Value} (hc : w.cell? ⟨b, i, none⟩ = some v) => (gb_cell0 hg (p := ⟨b, i, none⟩) (World.block_lt_of_cell? w _ hc)).trans hc
  exact ⟨k c0, k c1, k c2, k c3, k c4, k c5, k c6, k c7, k c8, k c9, k c10, k c11⟩

theorem fin_step {w wc : World} {g4 g5 g6 : Nat} {b0 b1 b2 b3 t0 t1 t2 t3 : Int} (hG : w.grownBy wc none) (d45 : g4 ≠ g5) (d46 : g4 ≠ g6) (d56 : g5 ≠ g6) (l4 : w.heap.size ≤ g4) (l5 : w.heap.size ≤ g5) (l6 : w.heap.size ≤ g6)
    (hz : wc.cell? ⟨g4, 0, none⟩ = some (.int .i64 0) ∧ wc.cell? ⟨g4, 1, none⟩ = some (.int .i64 0) ∧ wc.cell? ⟨g4, 2, none⟩ = some (.int .i64 0) ∧ wc.cell? ⟨g4, 3, none⟩ = some (.int .i64 0) ∧ wc.cell? ⟨g5, 0, none⟩ = some (.int .i64 0) ∧ wc.cell? ⟨g5, 1, none⟩ = some (.int .i64 0) ∧ wc.cell? ⟨g6, 0, none⟩ = some (.int .i64 0) ∧ wc.cell? ⟨g6, 1, none⟩ = some (.int .i64 0)) :
    ((((((((wc.setCell ⟨g4, 0, none⟩ (.int .i64 b0)).setCell ⟨g4, 1, none⟩ (.int .i64 b1)).setCell ⟨g4, 2, none⟩ (.int .i64 b2)).setCell ⟨g4, 3, none⟩ (.int .i64 b3)).setCell ⟨g5, 0, none⟩ (.int .i64 t0)).setCell ⟨g5, 1, none⟩ (.int .i64 t1)).setCell ⟨g6, 0, none⟩ (.int .i64 t2)).setCell ⟨g6, 1, none⟩ (.int .i64 t3)).drew.cell? ⟨g4, 0, none⟩ = some (.int .i64 b0) ∧ ((((((((wc.setCell ⟨g4, 0, none⟩ (.int .i64 b0)).setCell ⟨g4, 1, none⟩ (.int .i64 b1)).setCell ⟨g4, 2, none⟩ (.int .i64 b2)).setCell ⟨g4, 3, none⟩ (.int .i64 b3)).setCell ⟨g5, 0, none⟩ (.int .i64 t0)).setCell ⟨g5, 1, none⟩ (.int .i64 t1)).setCell ⟨g6, 0, none⟩ (.int .i64 t2)).setCell ⟨g6, 1, none⟩ (.int .i64 t3)).drew.cell? ⟨g4, 1, none⟩ = some (.int .i64 b1) ∧ ((((((((wc.setCell ⟨g4, 0, none⟩ (.int .i64 b0)).setCell ⟨g4, 1, none⟩ (.int .i64 b1)).setCell ⟨g4, 2, none⟩ (.int .i64 b2)).setCell ⟨g4, 3, none⟩ (.int .i64 b3)).setCell ⟨g5, 0, none⟩ (.int .i64 t0)).setCell ⟨g5, 1, none⟩ (.int .i64 t1)).setCell ⟨g6, 0, none⟩ (.int .i64 t2)).setCell ⟨g6, 1, none⟩ (.int .i64 t3)).drew.cell? ⟨g4, 2, none⟩ = some (.int .i64 b2) ∧ ((((((((wc.setCell ⟨g4, 0, none⟩ (.int .i64 b0)).setCell ⟨g4, 1, none⟩ (.int .i64 b1)).setCell ⟨g4, 2, none⟩ (.int .i64 b2)).setCell ⟨g4, 3, none⟩ (.int .i64 b3)).setCell ⟨g5, 0, none⟩ (.int .i64 t0)).setCell ⟨g5, 1, none⟩ (.int .i64 t1)).setCell ⟨g6, 0, none⟩ (.int .i64 t2)).setCell ⟨g6, 1, none⟩ (.int .i64 t3)).drew.cell? ⟨g4, 3, none⟩ = some (.int .i64 b3) ∧ ((((((((wc.setCell ⟨g4, 0, none⟩ (.int .i64 b0)).setCell ⟨g4, 1, none⟩ (.int .i64 b1)).setCell ⟨g4, 2, none⟩ (.int .i64 b2)).setCell ⟨g4, 3, none⟩ (.int .i64 b3)).setCell ⟨g5, 0, none⟩ (.int .i64 t0)).setCell ⟨g5, 1, none⟩ (.int .i64 t1)).setCell ⟨g6, 0, none⟩ (.int .i64 t2)).setCell ⟨g6, 1, none⟩ (.int .i64 t3)).drew.cell? ⟨g5, 0, none⟩ = some (.int .i64 t0) ∧ ((((((((wc.setCell ⟨g4, 0, none⟩ (.int .i64 b0)).setCell ⟨g4, 1, none⟩ (.int .i64 b1)).setCell ⟨g4, 2, none⟩ (.int .i64 b2)).setCell ⟨g4, 3, none⟩ (.int .i64 b3)).setCell ⟨g5, 0, none⟩ (.int .i64 t0)).setCell ⟨g5, 1, none⟩ (.int .i64 t1)).setCell ⟨g6, 0, none⟩ (.int .i64 t2)).setCell ⟨g6, 1, none⟩ (.int .i64 t3)).drew.cell? ⟨g5, 1, none⟩ = some (.int .i64 t1) ∧ ((((((((wc.setCell ⟨g4, 0, none⟩ (.int .i64 b0)).setCell ⟨g4, 1, none⟩ (.int .i64 b1)).setCell ⟨g4, 2, none⟩ (.int .i64 b2)).setCell ⟨g4, 3, none⟩ (.int .i64 b3)).setCell ⟨g5, 0, none⟩ (.int .i64 t0)).setCell ⟨g5, 1, none⟩ (.int .i64 t1)).setCell ⟨g6, 0, none⟩ (.int .i64 t2)).setCell ⟨g6, 1, none⟩ (.int .i64 t3)).drew.cell? ⟨g6, 0, none⟩ = some (.int .i64 t2) ∧ ((((((((wc.setCell ⟨g4, 0, none⟩ (.int .i64 b0)).setCell ⟨g4, 1, none⟩ (.int .i64 b1)).setCell ⟨g4, 2, none⟩ (.int .i64 b2)).setCell ⟨g4, 3, none⟩ (.int .i64 b3)).setCell ⟨g5, 0, none⟩ (.int .i64 t0)).setCell ⟨g5, 1, none⟩ (.int .i64 t1)).setCell ⟨g6, 0, none⟩ (.int .i64 t2)).setCell ⟨g6, 1, none⟩ (.int .i64 t3)).drew.cell? ⟨g6, 1, none⟩ = some (.int .i64 t3) ∧ w.grownBy ((((((((wc.setCell ⟨g4, 0, none⟩ (.int .i64 b0)).setCell ⟨g4, 1, none⟩ (.int .i64 b1)).setCell ⟨g4, 2, none⟩ (.int .i64 b2)).setCell ⟨g4, 3, none⟩ (.int .i64 b3)).setCell ⟨g5, 0, none⟩ (.int .i64 t0)).setCell ⟨g5, 1, none⟩ (.int .i64 t1)).setCell ⟨g6, 0, none⟩ (.int .i64 t2)).setCell ⟨g6, 1, none⟩ (.int .i64 t3)).drew none := by
  obtain ⟨e0, e1, e2, e3, e4, e5, e6, e7⟩ := hz
  refine ⟨by go_simp, by go_simp, by go_simp, by go_simp, by go_simp, by go_simp, by go_simp, by go_simp, ?_⟩
  exact gb_drew (gb_setCell (gb_setCell (gb_setCell (gb_setCell (gb_setCell (gb_setCell (gb_setCell (gb_setCell hG (.inr l4) _) (.inr l4) _) (.inr l4) _) (.inr l4) _) (.inr l5) _) (.inr l5) _) (.inr l6) _) (.inr l6) _)

set_option maxRecDepth 100000 in
set_option maxHeartbeats 8000000 in
theorem sclip0_c {x0 y0 x1 y1 px py qx qy d0 d1 d2 d3 s0 s1 s2 s3 b0 b1 b2 b3 p0 p1 q0 q1 m0 m1 m2 m3 : Int} (w : World)
    (hC : Cl0 x0 y0 x1 y1 px py qx qy d0 d1 d2 d3 s0 s1 s2 s3 b0 b1 b2 b3 p0 p1 q0 q1) :
    Calls Tryz.prog 18 #[vR d0 d1 d2 d3, vR x0 y0 x1 y1, vR s0 s1 s2 s3, .int .i64 px, .int .i64 py, vR m0 m1 m2 m3, .bool false, .int .i64 qx, .int .i64 qy] w fun e w' =>
      e = .returned (.tuple #[vR b0 b1 b2 b3, vP p0 p1, vP q0 q1]) ∧ w.grownBy w' none := by
  obtain ⟨⟨h1, h2, h3, h4, h5, h6, h7, h8, h9, h10, h11, h12, h13, h14⟩, hb, hp⟩ := hC
  obtain ⟨a0, ha0⟩ : ∃ a0, ia 0 x0 y0 x1 y1 d0 d1 d2 d3 = a0 := ⟨_, rfl⟩
  obtain ⟨a1, ha1⟩ : ∃ a1, ia 1 x0 y0 x1 y1 d0 d1 d2 d3 = a1 := ⟨_, rfl⟩
  obtain ⟨a2, ha2⟩ : ∃ a2, ia 2 x0 y0 x1 y1 d0 d1 d2 d3 = a2 := ⟨_, rfl⟩
  obtain ⟨a3, ha3⟩ : ∃ a3, ia 3 x0 y0 x1 y1 d0 d1 d2 d3 = a3 := ⟨_, rfl⟩
  rw [ha0, ha1, ha2, ha3] at hb
  have Ha := hid (And.intro ha0 (And.intro ha1 (And.intro ha2 ha3)))
  have Hb := hid hb
  have Hp := hid hp
  have Hs := hid (And.intro h7 (And.intro h8 (And.intro h9 (And.intro h10 (And.intro h11 h12)))))
  clear ha0 ha1 ha2 ha3 hb hp
  unfold sm at h1 h2 h3 h4 h5 h6 h11 h12 h13 h14
  have r1 : IntKind.i64.wrap (x0 - px) = x0 - px := IntWalk.i64_in _ (by omega)
  have r2 : IntKind.i64.wrap (y0 - py) = y0 - py := IntWalk.i64_in _ (by omega)
  clear h7 h8 h9 h10
  go_enter Tryz.func18, Tryz.ntmps18
  go_upto_region 0 with fail
  go_cut [9, 10, 11, 18, 19, 20] (fun u9 u10 u11 u18 u19 u20 wx => ∃ bd br bs g4 g5 g6 : Nat, (u9 = .pointer (some ⟨bd, 0, none⟩) ∧ u10 = .pointer (some ⟨br, 0, none⟩) ∧ u11 = .pointer (some ⟨bs, 0, none⟩) ∧ u18 = .pointer (some ⟨g4, 0, none⟩) ∧ u19 = .pointer (some ⟨g5, 0, none⟩) ∧ u20 = .pointer (some ⟨g6, 0, none⟩)) ∧ (wx.cell? ⟨bd, 0, none⟩ = some (.int .i64 d0) ∧ wx.cell? ⟨bd, 1, none⟩ = some (.int .i64 d1) ∧ wx.cell? ⟨bd, 2, none⟩ = some (.int .i64 d2) ∧ wx.cell? ⟨bd, 3, none⟩ = some (.int .i64 d3) ∧ wx.cell? ⟨br, 0, none⟩ = some (.int .i64 x0) ∧ wx.cell? ⟨br, 1, none⟩ = some (.int .i64 y0) ∧ wx.cell? ⟨br, 2, none⟩ = some (.int .i64 x1) ∧ wx.cell? ⟨br, 3, none⟩ = some (.int .i64 y1) ∧ wx.cell? ⟨bs, 0, none⟩ = some (.int .i64 s0) ∧ wx.cell? ⟨bs, 1, none⟩ = some (.int .i64 s1) ∧ wx.cell? ⟨bs, 2, none⟩ = some (.int .i64 s2) ∧ wx.cell? ⟨bs, 3, none⟩ = some (.int .i64 s3)) ∧ (wx.cell? ⟨g4, 0, none⟩ = some (.int .i64 0) ∧ wx.cell? ⟨g4, 1, none⟩ = some (.int .i64 0) ∧ wx.cell? ⟨g4, 2, none⟩ = some (.int .i64 0) ∧ wx.cell? ⟨g4, 3, none⟩ = some (.int .i64 0) ∧ wx.cell? ⟨g5, 0, none⟩ = some (.int .i64 0) ∧ wx.cell? ⟨g5, 1, none⟩ = some (.int .i64 0) ∧ wx.cell? ⟨g6, 0, none⟩ = some (.int .i64 0) ∧ wx.cell? ⟨g6, 1, none⟩ = some (.int .i64 0) ∧ (∀ k, wx.frozen? ⟨g4, k, none⟩ = false) ∧ (∀ k, wx.frozen? ⟨g5, k, none⟩ = false) ∧ (∀ k, wx.frozen? ⟨g6, k, none⟩ = false)) ∧ w.grownBy wx none ∧ (g4 ≠ g5 ∧ g4 ≠ g6 ∧ g5 ≠ g6 ∧ br ≠ g4 ∧ br ≠ g5 ∧ br ≠ g6) ∧ w.heap.size ≤ g4 ∧ w.heap.size ≤ g5 ∧ w.heap.size ≤ g6)
  case first =>
    go_wp2_with fail
    go_meet
    exact ⟨_, _, _, _, _, _, ⟨rfl, rfl, rfl, rfl, rfl, rfl⟩, ⟨by go_simp, by go_simp, by go_simp, by go_simp, by go_simp, by go_simp, by go_simp, by go_simp, by go_simp, by go_simp, by go_simp, by go_simp⟩, ⟨by go_simp, by go_simp, by go_simp, by go_simp, by go_simp, by go_simp, by go_simp, by go_simp, fun k => by go_simp, fun k => by go_simp, fun k => by go_simp⟩, by (repeat (first | exact gb_refl _ _ | refine gb_alloc ?_ _)), ⟨by omega, by omega, by omega, by omega, by omega, by omega⟩, by omega, by omega, by omega⟩
  case rest =>
  obtain ⟨bd, br, bs, g4, g5, g6, ⟨rfl, rfl, rfl, rfl, rfl, rfl⟩, hbase, hzero, hgw, ⟨d45, d46, d56, dr4, dr5, dr6⟩, l4, l5, l6⟩ := hcut
  obtain ⟨wx, rfl⟩ : ∃ wx : World, wx = wc := ⟨_, rfl⟩
  have HB := hid hbase
  have HZ := hid hzero
  have HG := hid hgw
  obtain ⟨c0, c1, c2, c3, c4, c5, c6, c7, c8, c9, c10, c11⟩ := hbase
  clear hzero hgw
  have z0 : g6 < wx.heap.size := World.block_lt_of_cell? wx _ HZ.out.2.2.2.2.2.2.1
  have z04 : g4 < wx.heap.size := World.block_lt_of_cell? wx _ HZ.out.1
  have z05 : g5 < wx.heap.size := World.block_lt_of_cell? wx _ HZ.out.2.2.2.2.1
  have z1 : bd < wx.heap.size := World.block_lt_of_cell? wx _ c0
  have z2 : br < wx.heap.size := World.block_lt_of_cell? wx _ c4
  have z3 : bs < wx.heap.size := World.block_lt_of_cell? wx _ c8
  go_upto_region 1 with fail
  go_cut [21] (fun v wy => ∃ g, v = .pointer (some ⟨g, 0, none⟩) ∧ wx.heap.size ≤ g ∧ wy.cell? ⟨g, 0, none⟩ = some (.int .i64 b0) ∧ wy.cell? ⟨g, 1, none⟩ = some (.int .i64 b1) ∧ wy.cell? ⟨g, 2, none⟩ = some (.int .i64 b2) ∧ wy.cell? ⟨g, 3, none⟩ = some (.int .i64 b3) ∧ wx.grownBy wy none)
  case first =>
    obtain ⟨ha0, ha1, ha2, ha3⟩ := Ha.out
    obtain ⟨hb0, hb1, hb2, hb3⟩ := Hb.out
    have HAB := hid (And.intro (And.intro ha0 (And.intro ha1 (And.intro ha2 ha3))) (And.intro hb0 (And.intro hb1 (And.intro hb2 hb3))))
    clear ha0 ha1 ha2 ha3 hb0 hb1 hb2 hb3
    go_wp2_with fail
    go_region_held3 (fun W => W.cell? ⟨bd, 0, none⟩ = some (.int .i64 d0) ∧ W.cell? ⟨bd, 1, none⟩ = some (.int .i64 d1) ∧ W.cell? ⟨bd, 2, none⟩ = some (.int .i64 d2) ∧ W.cell? ⟨bd, 3, none⟩ = some (.int .i64 d3) ∧ W.cell? ⟨br, 0, none⟩ = some (.int .i64 x0) ∧ W.cell? ⟨br, 1, none⟩ = some (.int .i64 y0) ∧ W.cell? ⟨br, 2, none⟩ = some (.int .i64 x1) ∧ W.cell? ⟨br, 3, none⟩ = some (.int .i64 y1) ∧ W.cell? ⟨bs, 0, none⟩ = some (.int .i64 s0) ∧ W.cell? ⟨bs, 1, none⟩ = some (.int .i64 s1) ∧ W.cell? ⟨bs, 2, none⟩ = some (.int .i64 s2) ∧ W.cell? ⟨bs, 3, none⟩ = some (.int .i64 s3)) (first | (go_simp; done) | assumption)
      (first
      | (go_at_call_of 26 (Value.int IntKind.i64 d2); refine (scommon_c x0 y0 x1 y1 d0 d1 d2 d3 _).mono ?_; rintro e w2 ⟨rfl, hg⟩; rw [isec_ia, HAB.out.1.1, HAB.out.1.2.1, HAB.out.1.2.2.1, HAB.out.1.2.2.2]
         have hs2 := base_kept (by assumption) hg
         have hB2 := gb_trans (a := wx) (by (repeat (first | exact gb_refl _ _ | refine gb_drew ?_ | refine gb_alloc ?_ _))) hg
         have y2 := hB2.size
         obtain ⟨cc2, ff2⟩ := gb_rules hg
         have v2 := hg.size
         (try simp at v2)
         (try have v2a : wx.heap.size < w2.heap.size := by omega)
         have y2a : bd < w2.heap.size := by omega
         have y2b : br < w2.heap.size := by omega
         have y2c : bs < w2.heap.size := by omega
         clear hg)
      | (go_at_call 31; refine (smoved_c s0 s1 s2 s3 (x0 - px) (y0 - py) _ Hs.out.1 Hs.out.2.1 Hs.out.2.2.1 Hs.out.2.2.2.1 Hs.out.2.2.2.2.1 Hs.out.2.2.2.2.2).mono ?_; rintro e w3 ⟨rfl, hg⟩
         have hs3 := base_kept (by assumption) hg
         have hB3 := gb_trans (a := wx) (by (repeat (first | exact hB2 | refine gb_drew ?_ | refine gb_alloc ?_ _))) hg
         have y3 := hB3.size
         have v3 := hg.size
         (try simp at v3)
         (try have v3a : wx.heap.size < w3.heap.size := by omega)
         (try have v3b : w2.heap.size < w3.heap.size := by omega)
         have y3a : bd < w3.heap.size := by omega
         have y3b : br < w3.heap.size := by omega
         have y3c : bs < w3.heap.size := by omega
         obtain ⟨cc3, ff3⟩ := gb_rules hg
         clear hg)
      | (go_at_call 26; refine (scommon_c a0 a1 a2 a3 (s0 + (x0 - px)) (s1 + (y0 - py)) (s2 + (x0 - px)) (s3 + (y0 - py)) _).mono ?_; rintro e w4 ⟨rfl, hg⟩; rw [isec_ia, HAB.out.2.1, HAB.out.2.2.1, HAB.out.2.2.2.1, HAB.out.2.2.2.2]
         have hs4 := base_kept (by assumption) hg
         have hB4 := gb_trans (a := wx) (by (repeat (first | exact hB3 | refine gb_drew ?_ | refine gb_alloc ?_ _))) hg
         have y4 := hB4.size
         have v4 := hg.size
         (try simp at v4)
         (try have v4a : wx.heap.size < w4.heap.size := by omega)
         (try have v4b : w2.heap.size < w4.heap.size := by omega)
         (try have v4c : w3.heap.size < w4.heap.size := by omega)
         have y4a : bd < w4.heap.size := by omega
         have y4b : br < w4.heap.size := by omega
         have y4c : bs < w4.heap.size := by omega
         obtain ⟨cc4, ff4⟩ := gb_rules hg
         clear hg))
    all_goals (go_wp2_with fail; go_meet; refine ⟨_, rfl, by omega, by go_simp, by go_simp, by go_simp, by go_simp, ?_⟩; (repeat (first | exact hB4 | exact gb_refl _ _ | refine gb_drew ?_ | refine gb_alloc ?_ _ | refine gb_setCell ?_ (.inr (by dsimp only; omega)) _)))
  case rest =>
  obtain ⟨g, rfl, hg, k0, k1, k2, k3, hgw⟩ := hcut
  have n4 : g ≠ g4 := by omega
  have n5 : g ≠ g5 := by omega
  have n6 : g ≠ g6 := by omega
  have z4 := z04
  have z5 := z05
  have x0' := (gb_cell0 hgw (p := ⟨br, 0, none⟩) (by dsimp only; omega)).trans c4
  have x1' := (gb_cell0 hgw (p := ⟨br, 1, none⟩) (by dsimp only; omega)).trans c5
  obtain ⟨e0, e1, e2, e3, e4, e5, e6, e7, F4, F5, F6⟩ := HZ.out
  have e0' := (gb_cell0 hgw (p := ⟨g4, 0, none⟩) (by dsimp only; omega)).trans e0
  have e1' := (gb_cell0 hgw (p := ⟨g4, 1, none⟩) (by dsimp only; omega)).trans e1
  have e2' := (gb_cell0 hgw (p := ⟨g4, 2, none⟩) (by dsimp only; omega)).trans e2
  have e3' := (gb_cell0 hgw (p := ⟨g4, 3, none⟩) (by dsimp only; omega)).trans e3
  have e4' := (gb_cell0 hgw (p := ⟨g5, 0, none⟩) (by dsimp only; omega)).trans e4
  have e5' := (gb_cell0 hgw (p := ⟨g5, 1, none⟩) (by dsimp only; omega)).trans e5
  have e6' := (gb_cell0 hgw (p := ⟨g6, 0, none⟩) (by dsimp only; omega)).trans e6
  have e7' := (gb_cell0 hgw (p := ⟨g6, 1, none⟩) (by dsimp only; omega)).trans e7
  have HE := hid (And.intro e0' (And.intro e1' (And.intro e2' (And.intro e3' (And.intro e4' (And.intro e5' (And.intro e6' e7')))))))
  have F4' : ∀ k, wc.frozen? ⟨g4, k, none⟩ = false := fun k => (gb_free0 hgw (p := ⟨g4, k, none⟩) z4).trans (F4 k)
  have F5' : ∀ k, wc.frozen? ⟨g5, k, none⟩ = false := fun k => (gb_free0 hgw (p := ⟨g5, k, none⟩) z5).trans (F5 k)
  have F6' : ∀ k, wc.frozen? ⟨g6, k, none⟩ = false := fun k => (gb_free0 hgw (p := ⟨g6, k, none⟩) z0).trans (F6 k)
  have HGW := hid (gb_trans HG.out hgw)
  have HQ := hid z0
  clear hgw c0 c1 c2 c3 c4 c5 c6 c7 c8 c9 c10 c11 e0 e1 e2 e3 e4 e5 e6 e7 F4 F5 F6 hg z0 z4 z5 r1 r2
  obtain ⟨f1, f2, f3, f4⟩ := Hp.out
  have w1 : IntKind.i64.wrap (px + b0) = px + b0 := IntWalk.i64_in _ (by omega)
  have w2 : IntKind.i64.wrap (px + b0 - x0) = px + b0 - x0 := IntWalk.i64_in _ (by omega)
  have w3 : IntKind.i64.wrap (py + b1) = py + b1 := IntWalk.i64_in _ (by omega)
  have w4 : IntKind.i64.wrap (py + b1 - y0) = py + b1 - y0 := IntWalk.i64_in _ (by omega)
  have w5 : IntKind.i64.wrap (qx + b0) = qx + b0 := IntWalk.i64_in _ (by omega)
  have w6 : IntKind.i64.wrap (qx + b0 - x0) = qx + b0 - x0 := IntWalk.i64_in _ (by omega)
  have w7 : IntKind.i64.wrap (qy + b1) = qy + b1 := IntWalk.i64_in _ (by omega)
  have w8 : IntKind.i64.wrap (qy + b1 - y0) = qy + b1 - y0 := IntWalk.i64_in _ (by omega)
  clear f1 f2 f3 f4
  go_upto_region 4 with fail
  go_cut [18, 19, 20] (fun t18 t19 t20 wz => t18 = .pointer (some ⟨g4, 0, none⟩) ∧ t19 = .pointer (some ⟨g5, 0, none⟩) ∧ t20 = .pointer (some ⟨g6, 0, none⟩) ∧ wz.cell? ⟨g4, 0, none⟩ = some (.int .i64 b0) ∧ wz.cell? ⟨g4, 1, none⟩ = some (.int .i64 b1) ∧ wz.cell? ⟨g4, 2, none⟩ = some (.int .i64 b2) ∧ wz.cell? ⟨g4, 3, none⟩ = some (.int .i64 b3) ∧ wz.cell? ⟨g5, 0, none⟩ = some (.int .i64 (px + b0 - x0)) ∧ wz.cell? ⟨g5, 1, none⟩ = some (.int .i64 (py + b1 - y0)) ∧ wz.cell? ⟨g6, 0, none⟩ = some (.int .i64 (qx + b0 - x0)) ∧ wz.cell? ⟨g6, 1, none⟩ = some (.int .i64 (qy + b1 - y0)) ∧ w.grownBy wz none)
  case first =>
    go_wp2_with fail
    go_region_held3 (fun W => W.cell? ⟨g, 0, none⟩ = some (.int .i64 b0) ∧ W.cell? ⟨g, 1, none⟩ = some (.int .i64 b1) ∧ W.cell? ⟨g, 2, none⟩ = some (.int .i64 b2) ∧ W.cell? ⟨g, 3, none⟩ = some (.int .i64 b3) ∧ W.cell? ⟨br, 0, none⟩ = some (.int .i64 x0) ∧ W.cell? ⟨br, 1, none⟩ = some (.int .i64 y0)) (go_simp) (fail)
    all_goals (go_wp2_with fail; go_meet; exact ⟨rfl, rfl, rfl, fin_step HGW.out d45 d46 d56 l4 l5 l6 HE.out⟩)
  case rest =>
  obtain ⟨rfl, rfl, rfl, r0, r1, r2, r3, r4, r5, r6, r7, hgz⟩ := hcut
  have HGZ := hid hgz
  clear hgz w1 w2 w3 w4 w5 w6 w7 w8 k0 k1 k2 k3 x0' x1' e0' e1' e2' e3' e4' e5' e6' e7' F4' F5' F6'
  go_wp2_with fail
  obtain ⟨f1, f2, f3, f4⟩ := Hp.out
  refine bodyPost_ret (v := .tuple #[vR b0 b1 b2 b3, vP (px + b0 - x0) (py + b1 - y0), vP (qx + b0 - x0) (qy + b1 - y0)]) (by simp [results, Tryz.results18, go_sem, r0, r1, r2, r3, r4, r5, r6, r7]) rfl ⟨?_, HGZ.out⟩
  rw [show px + b0 - x0 = p0 by omega, show py + b1 - y0 = p1 by omega, show qx + b0 - x0 = q0 by omega, show qy + b1 - y0 = q1 by omega]
end Go.Proofs.YtgjpohmjkhgpfaaGreat

namespace Go.Proofs.YtgjpohmjkhgpfaaGreat
open Go.ChangeShapes Go.WideShapes Go.ChangeAt Go.RowKit

theorem own : ownKnob Tryz.prog.godebug = none := by kernel_rfl
theorem laidOut : laidOutB Tryz.prog = true := by kernel_rfl
/-- an image that came in -/
def InI (w : World) (A : Option Addr) (n c : Nat) (p : Nat → Int) : Prop := Rd w A n p ∧ By p ∧ (∀ i, n ≤ i → p i = 0) ∧ n ≤ c ∧ c ≤ 9223372036854775807
section
variable {H : Type} {enc : TypeId × Value → H} {w : World} {base : Nat} {spare : Nat → Bool} {held : Bool}
theorem open_bytes {fuel : Nat} {v : Value} {y : DataW H × List MemPlace} (h : DataW.trod enc Tryz.prog w base spare held fuel 22 [v] = some y) :
    ∃ A n c p, v = .slice A n c ∧ InI w A n c p := by
  rcases open_ints Tryz.underlying22 Tryz.underlying5 (by kernel_rfl) h with ⟨hcs, _⟩ | ⟨a, l, c, zs, hcs, _, hl, hm, hz, _, hcell, hwf⟩
  · injection hcs with hcs; subst hcs
    exact ⟨none, 0, 0, fun _ => 0, rfl, Rd.nil _ _ _, fun _ => ⟨Int.le_refl 0, (by decide : (0 : Int) ≤ 255)⟩, fun _ _ => rfl, Nat.le_refl _, by omega⟩
  · injection hcs with hcs; subst hcs
    have hlz : l ≤ zs.length := by rw [hz]; split <;> omega
    refine ⟨some a, l, c, fun i => if i < l then zs.getD i 0 else 0, rfl, ?_, ?_, ?_, hl, by simp only [maxLen] at hm; omega⟩
    · intro hn
      refine ⟨a, rfl, ?_, fun i hi => ?_⟩
      · have := World.block_lt_of_cell? w _ (hcell 0 (by omega))
        rw [add_block] at this; exact this
      · rw [hcell i (by omega)]; show _ = some (Value.int .u8 (if i < l then zs.getD i 0 else 0)); rw [if_pos hi]
    · intro i
      dsimp only
      split
      · rename_i hi
        have hmem : zs.getD i 0 ∈ zs := by
          rw [List.getD_eq_getElem?_getD, List.getElem?_eq_getElem (by omega)]; exact List.getElem_mem _
        generalize zs.getD i 0 = z at hmem ⊢
        have := hwf _ hmem
        simp [Lit.wf, IntKind.min, IntKind.max, IntKind.signed, IntKind.bits] at this
        exact ⟨by omega, by omega⟩
      · exact ⟨by omega, by omega⟩
    · intro i hi
      exact if_neg (by omega)
set_option maxRecDepth 100000 in
theorem open_img {r : Reach} {b0 : Nat} {v : Value} {d : DataW H} {pl : List MemPlace} (hv : Value.okWide Tryz.prog w r b0 24 v) (h : DataW.Trod enc Tryz.prog w base spare held 24 v d pl) :
    ∃ k x0 y0 x1 y1 A n c p, v = .agg #[.int .i64 k, .int .i64 x0, .int .i64 y0, .int .i64 x1, .int .i64 y1, .slice A n c] ∧ InI w A n c p := by
  have hs := Tryz.underlying24
  obtain ⟨cs, rfl, hsz⟩ := okWide_struct hs hv
  obtain ⟨l⟩ := cs
  have hC : Tryz.prog.cellsOf 24 = 6 := by kernel_rfl
  have C3 : Tryz.prog.cellsOf 3 = 1 := by kernel_rfl
  have C22 : Tryz.prog.cellsOf 22 = 1 := by kernel_rfl
  match l, hsz.trans hC with
  | [c0, c1, c2, c3, c4, c5], _ =>
    obtain ⟨fuel, hf⟩ := h
    obtain ⟨xs, n, _, hx, _, hlen, hg⟩ := DataW.trod_struct hs hf
    match xs, hlen with
    | [y0, y1, y2, y3, y4, y5], _ =>
      obtain ⟨k0, e0, -, -⟩ := DataW.trod_int Tryz.underlying3 (show DataW.trod enc Tryz.prog w base spare held n 3 [c0] = some y0 by simpa [Value.cells, C3] using hg 0 _ rfl)
      obtain ⟨k1, e1, -, -⟩ := DataW.trod_int Tryz.underlying3 (show DataW.trod enc Tryz.prog w base spare held n 3 [c1] = some y1 by simpa [Value.cells, C3] using hg 1 _ rfl)
      obtain ⟨k2, e2, -, -⟩ := DataW.trod_int Tryz.underlying3 (show DataW.trod enc Tryz.prog w base spare held n 3 [c2] = some y2 by simpa [Value.cells, C3] using hg 2 _ rfl)
      obtain ⟨k3, e3, -, -⟩ := DataW.trod_int Tryz.underlying3 (show DataW.trod enc Tryz.prog w base spare held n 3 [c3] = some y3 by simpa [Value.cells, C3] using hg 3 _ rfl)
      obtain ⟨k4, e4, -, -⟩ := DataW.trod_int Tryz.underlying3 (show DataW.trod enc Tryz.prog w base spare held n 3 [c4] = some y4 by simpa [Value.cells, C3] using hg 4 _ rfl)
      obtain ⟨A, m, c, p, rfl, hI⟩ := open_bytes (show DataW.trod enc Tryz.prog w base spare held n 22 [c5] = some y5 by simpa [Value.cells, C22] using hg 5 _ rfl)
      injection e0 with e0; injection e1 with e1; injection e2 with e2; injection e3 with e3; injection e4 with e4
      subst e0 e1 e2 e3 e4
      exact ⟨k0, k1, k2, k3, k4, A, m, c, p, rfl, hI⟩
set_option maxRecDepth 100000 in
theorem open_four {r : Reach} {b0 : Nat} {v : Value} {d : DataW H} {pl : List MemPlace} (hv : Value.okWide Tryz.prog w r b0 25 v) (h : DataW.Trod enc Tryz.prog w base spare held 25 v d pl) :
    ∃ r0 r1 r2 r3, v = .agg #[.int .i64 r0, .int .i64 r1, .int .i64 r2, .int .i64 r3] := by
  have hs := Tryz.underlying25
  have hv' : ∃ cs, v = .agg cs ∧ cs.size = Tryz.prog.cellsOf 25 := by
    unfold Value.okWide at hv
    rw [hs] at hv
    obtain ⟨cs, e, hsz, _⟩ := hv
    exact ⟨cs, e, hsz⟩
  obtain ⟨cs, rfl, hsz⟩ := hv'
  obtain ⟨l⟩ := cs
  have hC : Tryz.prog.cellsOf 25 = 4 := by kernel_rfl
  have C3 : Tryz.prog.cellsOf 3 = 1 := by kernel_rfl
  match l, hsz.trans hC with
  | [c0, c1, c2, c3], _ =>
    obtain ⟨fuel, hf⟩ := h
    obtain ⟨xs, n, _, hx, _, hlen, hg⟩ := DataW.trod_array hs hf
    match xs, hlen with
    | [y0, y1, y2, y3], _ =>
      obtain ⟨k0, e0, -, -⟩ := DataW.trod_int Tryz.underlying3 (show DataW.trod enc Tryz.prog w base spare held n 3 [c0] = some y0 by simpa [Value.cells, C3] using hg 0 (by omega))
      obtain ⟨k1, e1, -, -⟩ := DataW.trod_int Tryz.underlying3 (show DataW.trod enc Tryz.prog w base spare held n 3 [c1] = some y1 by simpa [Value.cells, C3] using hg 1 (by omega))
      obtain ⟨k2, e2, -, -⟩ := DataW.trod_int Tryz.underlying3 (show DataW.trod enc Tryz.prog w base spare held n 3 [c2] = some y2 by simpa [Value.cells, C3] using hg 2 (by omega))
      obtain ⟨k3, e3, -, -⟩ := DataW.trod_int Tryz.underlying3 (show DataW.trod enc Tryz.prog w base spare held n 3 [c3] = some y3 by simpa [Value.cells, C3] using hg 3 (by omega))
      injection e0 with e0; injection e1 with e1; injection e2 with e2; injection e3 with e3
      subst e0 e1 e2 e3
      exact ⟨k0, k1, k2, k3, rfl⟩
end
end Go.Proofs.YtgjpohmjkhgpfaaGreat

namespace Go.Proofs.YtgjpohmjkhgpfaaGreat
open Go.RowKit

theorem boxm_kept {w w' : World} {br bs bm n' cs n'' cm : Nat} {r0 r1 r2 r3 ks X0 Y0 X1 Y1 km Xm0 Ym0 Xm1 Ym1 : Int} {As Am : Option Addr} (h : w.cell? ⟨br, 0, none⟩ = some (.int .i64 r0) ∧ w.cell? ⟨br, 1, none⟩ = some (.int .i64 r1) ∧ w.cell? ⟨br, 2, none⟩ = some (.int .i64 r2) ∧ w.cell? ⟨br, 3, none⟩ = some (.int .i64 r3) ∧ w.cell? ⟨bs, 0, none⟩ = some (.int .i64 ks) ∧ w.cell? ⟨bs, 1, none⟩ = some (.int .i64 X0) ∧ w.cell? ⟨bs, 2, none⟩ = some (.int .i64 Y0) ∧ w.cell? ⟨bs, 3, none⟩ = some (.int .i64 X1) ∧ w.cell? ⟨bs, 4, none⟩ = some (.int .i64 Y1) ∧ w.cell? ⟨bs, 5, none⟩ = some (.slice As n' cs) ∧ w.cell? ⟨bm, 0, none⟩ = some (.int .i64 km) ∧ w.cell? ⟨bm, 1, none⟩ = some (.int .i64 Xm0) ∧ w.cell? ⟨bm, 2, none⟩ = some (.int .i64 Ym0) ∧ w.cell? ⟨bm, 3, none⟩ = some (.int .i64 Xm1) ∧ w.cell? ⟨bm, 4, none⟩ = some (.int .i64 Ym1) ∧ w.cell? ⟨bm, 5, none⟩ = some (.slice Am n'' cm)) (hg : w.grownBy w' none) : w'.cell? ⟨br, 0, none⟩ = some (.int .i64 r0) ∧ w'.cell? ⟨br, 1, none⟩ = some (.int .i64 r1) ∧ w'.cell? ⟨br, 2, none⟩ = some (.int .i64 r2) ∧ w'.cell? ⟨br, 3, none⟩ = some (.int .i64 r3) ∧ w'.cell? ⟨bs, 0, none⟩ = some (.int .i64 ks) ∧ w'.cell? ⟨bs, 1, none⟩ = some (.int .i64 X0) ∧ w'.cell? ⟨bs, 2, none⟩ = some (.int .i64 Y0) ∧ w'.cell? ⟨bs, 3, none⟩ = some (.int .i64 X1) ∧ w'.cell? ⟨bs, 4, none⟩ = some (.int .i64 Y1) ∧ w'.cell? ⟨bs, 5, none⟩ = some (.slice As n' cs) ∧ w'.cell? ⟨bm, 0, none⟩ = some (.int .i64 km) ∧ w'.cell? ⟨bm, 1, none⟩ = some (.int .i64 Xm0) ∧ w'.cell? ⟨bm, 2, none⟩ = some (.int .i64 Ym0) ∧ w'.cell? ⟨bm, 3, none⟩ = some (.int .i64 Xm1) ∧ w'.cell? ⟨bm, 4, none⟩ = some (.int .i64 Ym1) ∧ w'.cell? ⟨bm, 5, none⟩ = some (.slice Am n'' cm) := by
  obtain ⟨a0, a1, a2, a3, a4, a5, a6, a7, a8, a9, a10, a11, a12, a13, a14, a15⟩ := h
  have k := fun {b i : Nat} {v : Value} (hc : w.cell? ⟨b, i, none⟩ = some v) => (gb_cell0 hg (p := ⟨b, i, none⟩) (World.block_lt_of_cell? w _ hc)).trans hc
  exact ⟨k a0, k a1, k a2, k a3, k a4, k a5, k a6, k a7, k a8, k a9, k a10, k a11, k a12, k a13, k a14, k a15⟩

set_option maxRecDepth 100000 in
set_option maxHeartbeats 8000000 in
theorem zzdrawmask_of {w : World} {kd ks km n n' n'' cd cs cm : Nat} {Xd0 Yd0 Xd1 Yd1 dx0 dy0 dx1 dy1 X0 Y0 X1 Y1 sx0 sy0 sx1 sy1 Xm0 Ym0 Xm1 Ym1 mx0 my0 mx1 my1 r0 r1 r2 r3 px py qx qy op : Int} {p s m q : Nat → Int} {Ad As Am : Option Addr} (hkd : kd = 0 ∨ kd = 2 ∨ kd = 4)
    (hd : Rd w Ad n p) (hs : Rd w As n' s) (hm : Rd w Am n'' m) (Dd : Dat kd Xd0 Yd0 Xd1 Yd1 dx0 dy0 dx1 dy1 n p) (Ds : Dat ks X0 Y0 X1 Y1 sx0 sy0 sx1 sy1 n' s) (Dm : Dat km Xm0 Ym0 Xm1 Ym1 mx0 my0 mx1 my1 n'' m)
    (H : ∀ (w' : World) (B B' B'' c c' c'' b b' b'' : Nat) (A A' A'' : Option Addr) (td ts tm : TypeId), IM w' B dx0 dy0 dx1 dy1 n p A c b kd td → IM w' B' sx0 sy0 sx1 sy1 n' s A' c' b' ks ts → IM w' B'' mx0 my0 mx1 my1 n'' m A'' c'' b'' km tm → Apart A b' A' → Apart A b'' A'' →
      Calls Tryz.prog 42 #[.iface td (.pointer (some ⟨b, 0, none⟩)), vR r0 r1 r2 r3, .iface ts (.pointer (some ⟨b', 0, none⟩)), vP px py, .iface tm (.pointer (some ⟨b'', 0, none⟩)), vP qx qy, .int .i64 op] w' (DMout w' B n c A q)) :
    Calls Tryz.prog 35 #[vI kd Xd0 Yd0 Xd1 Yd1 Ad n cd, vR r0 r1 r2 r3, vI ks X0 Y0 X1 Y1 As n' cs, .int .i64 px, .int .i64 py, vI km Xm0 Ym0 Xm1 Ym1 Am n'' cm, .int .i64 qx, .int .i64 qy, .int .i64 op] w (Out w n q) := by
  have hk6 : kd ≠ 6 := by omega
  have HH := hid H
  have Hd := hid hd
  have Hs := hid hs
  have Hm := hid hm
  have HDd := hid Dd
  have HDs := hid Ds
  have HDm := hid Dm
  have Hk := hid hkd
  clear H hd hs hm Dd Ds Dm hkd
  go_enter Tryz.func35, Tryz.ntmps35
  go_wp2_with fail
  refine (make_d _ (Hd.out.kept0 (gb_alloc (gb_alloc (gb_alloc (gb_alloc (gb_refl _ _) _) _) _) _)) HDd.out).mono ?_
  rintro e w1 ⟨td, b, A, c, rfl, hI, hg⟩
  have HT := hid (hI.tdst Hk.out)
  have TA := fun (w' : World) => ta_draw (a := ⟨b, 0, none⟩) HT.out w'
  have HI := hid hI
  have Hg := hid hg
  obtain ⟨cc, ff⟩ := gb_rules hg
  have hz := hg.size
  simp at hz
  have hb : b < w1.heap.size := hI.ge.2
  have hbB := hI.ge.1
  simp at hbB
  have hb0 := boxm_kept (br := w.heap.size + 1) (bs := w.heap.size + 2) (bm := w.heap.size + 3) (ks := ks) (X0 := X0) (Y0 := Y0) (X1 := X1) (Y1 := Y1) (As := As) (n' := n') (cs := cs) (km := km) (Xm0 := Xm0) (Ym0 := Ym0) (Xm1 := Xm1) (Ym1 := Ym1) (Am := Am) (n'' := n'') (cm := cm) (r0 := r0) (r1 := r1) (r2 := r2) (r3 := r3) ⟨by go_simp, by go_simp, by go_simp, by go_simp, by go_simp, by go_simp, by go_simp, by go_simp, by go_simp, by go_simp, by go_simp, by go_simp, by go_simp, by go_simp, by go_simp, by go_simp⟩ (gb_refl ((((w.alloc (.cells #[.int .i64 kd, .int .i64 Xd0, .int .i64 Yd0, .int .i64 Xd1, .int .i64 Yd1, .slice Ad n cd] 64)).alloc (.cells #[.int .i64 r0, .int .i64 r1, .int .i64 r2, .int .i64 r3] 25)).alloc (.cells #[.int .i64 ks, .int .i64 X0, .int .i64 Y0, .int .i64 X1, .int .i64 Y1, .slice As n' cs] 64)).alloc (.cells #[.int .i64 km, .int .i64 Xm0, .int .i64 Ym0, .int .i64 Xm1, .int .i64 Ym1, .slice Am n'' cm] 64)) none)
  have HB0 := hid hb0
  have HBX := hid (boxm_kept hb0 hg)
  clear hb0
  have HG1 := hid (gb_trans (gb_alloc (gb_alloc (gb_alloc (gb_alloc (gb_refl w none) _) _) _) _) hg)
  clear hI hg cc ff
  go_wp2_with fail
  have x1 : w.heap.size + 1 < w1.heap.size := by omega
  have x2 : w.heap.size + 2 < w1.heap.size := by omega
  have x3 : w.heap.size + 3 < w1.heap.size := by omega
  obtain ⟨a0, a1, a2, a3, a4, a5, a6, a7, a8, a9, a10, a11, a12, a13, a14, a15⟩ := HBX.out
  go_region_held3 (fun W => W.cell? ⟨w.heap.size + 1, 0, none⟩ = some (.int .i64 r0) ∧ W.cell? ⟨w.heap.size + 1, 1, none⟩ = some (.int .i64 r1) ∧ W.cell? ⟨w.heap.size + 1, 2, none⟩ = some (.int .i64 r2) ∧ W.cell? ⟨w.heap.size + 1, 3, none⟩ = some (.int .i64 r3) ∧ W.cell? ⟨w.heap.size + 2, 0, none⟩ = some (.int .i64 ks) ∧ W.cell? ⟨w.heap.size + 2, 1, none⟩ = some (.int .i64 X0) ∧ W.cell? ⟨w.heap.size + 2, 2, none⟩ = some (.int .i64 Y0) ∧ W.cell? ⟨w.heap.size + 2, 3, none⟩ = some (.int .i64 X1) ∧ W.cell? ⟨w.heap.size + 2, 4, none⟩ = some (.int .i64 Y1) ∧ W.cell? ⟨w.heap.size + 2, 5, none⟩ = some (.slice As n' cs) ∧ W.cell? ⟨w.heap.size + 3, 0, none⟩ = some (.int .i64 km) ∧ W.cell? ⟨w.heap.size + 3, 1, none⟩ = some (.int .i64 Xm0) ∧ W.cell? ⟨w.heap.size + 3, 2, none⟩ = some (.int .i64 Ym0) ∧ W.cell? ⟨w.heap.size + 3, 3, none⟩ = some (.int .i64 Xm1) ∧ W.cell? ⟨w.heap.size + 3, 4, none⟩ = some (.int .i64 Ym1) ∧ W.cell? ⟨w.heap.size + 3, 5, none⟩ = some (.slice Am n'' cm)) (first | go_simp | assumption)
    (first
    | (go_at_call 43; refine (zrect_c r0 r1 r2 r3 _).mono ?_; rintro e w2 ⟨rfl, hg2⟩
       have HS2 := boxm_kept (by assumption) hg2
       have HG2 := hid (gb_trans (gb_drew HG1.out) hg2)
       have HR2 := hid hg2
       have HI2 := hid (HI.out.kept0 (gb_trans (gb_drew (gb_refl _ _)) hg2))
       clear hg2)
    | (go_at_call_of 41 (Value.slice As n' cs); refine (make_d _ (Hs.out.kept0 HG2.out) HDs.out).mono ?_; rintro e w3 ⟨ts, b', A', c', rfl, hI3, hg3⟩
       have HS3 := boxm_kept (by assumption) hg3
       have HG3 := hid (gb_trans HG2.out hg3)
       have HR3 := hid hg3
       have HI3 := hid (HI2.out.kept0 hg3)
       have HJ3 := hid hI3
       have hz2 := HG2.out.size
       have HAP : Hid (Apart A b' A') := hid (fun a ha => by
         have q1 := (HI2.out.alt a ha).1
         have q2 := hI3.ge.1
         exact ⟨by omega, fun a' ha' => by have q3 := (hI3.alt a' ha').2; omega⟩)
       clear hg3 hI3)
    | (go_at_call_of 41 (Value.slice Am n'' cm); refine (make_d _ (Hm.out.kept0 HG3.out) HDm.out).mono ?_; rintro e w4 ⟨tm, b'', A'', c'', rfl, hI4, hg4⟩
       have HS4 := boxm_kept (by assumption) hg4
       have HG4 := hid (gb_trans HG3.out hg4)
       have HR4 := hid hg4
       have HI4 := hid (HI3.out.kept0 hg4)
       have HJ4 := hid (HJ3.out.kept0 hg4)
       have HM4 := hid hI4
       have hz3 := HG3.out.size
       have HAQ : Hid (Apart A b'' A'') := hid (fun a ha => by
         have q1 := (HI3.out.alt a ha).1
         have q2 := hI4.ge.1
         exact ⟨by omega, fun a' ha' => by have q3 := (hI4.alt a' ha').2; omega⟩)
       clear hg4 hI4)
    | (go_at_call 42; refine (HH.out _ w.heap.size _ _ _ _ _ _ _ _ _ _ _ _ _ _ (HI4.out.low (by simp <;> omega)) HJ4.out HM4.out HAP.out HAQ.out).mono ?_; rintro e w5 ⟨rfl, h4, h5⟩
       have hGW := gb_trans (gb_drew Hg.out) (gb_trans HR2.out (gb_trans HR3.out HR4.out))
       have hIW := HI4.out
       have hal := HI.out.alt
       have HG5 := gb_new hGW h4 (fun g hg => by
         cases hA : A with
         | none => rw [hA] at hg; cases hg
         | some a => rw [hA] at hg; injection hg with hg; subst hg; exact (hal a hA).2)
       have HS5 := boxm_kept HB0.out HG5
       have HC5 := (World.cell?_of_block (h4.block b hIW.ge.2 (fun e => by
         cases hA : A with
         | none => rw [hA] at e; cases e
         | some a => rw [hA] at e; injection e with e; exact hIW.ne hk6 a hA e.symm))).trans (hIW.cell0 hk6)
       have HF := hid (And.intro h5 (gb_trans (gb_alloc (gb_alloc (gb_alloc (gb_alloc (gb_refl w none) _) _) _) _) HG5))
       clear h4 h5 hGW hIW hal))
  all_goals (
    go_wp2_with fail
    refine (pixels_c HT.out HC5).mono ?_
    rintro e w6 ⟨rfl, rfl⟩
    go_wp2_with fail
    go_ret
    exact ⟨_, _, rfl, HF.out.1, HF.out.2⟩)
end Go.Proofs.YtgjpohmjkhgpfaaGreat

namespace Go.Proofs.YtgjpohmjkhgpfaaGreat
open Go.RowKit

theorem box4_kept {w w' : World} {bd br bs bm n n' n'' cd cs cm : Nat} {r0 r1 r2 r3 kd Xd0 Yd0 Xd1 Yd1 ks X0 Y0 X1 Y1 km Xm0 Ym0 Xm1 Ym1 : Int} {Ad As Am : Option Addr} (h : w.cell? ⟨bd, 0, none⟩ = some (.int .i64 kd) ∧ w.cell? ⟨bd, 1, none⟩ = some (.int .i64 Xd0) ∧ w.cell? ⟨bd, 2, none⟩ = some (.int .i64 Yd0) ∧ w.cell? ⟨bd, 3, none⟩ = some (.int .i64 Xd1) ∧ w.cell? ⟨bd, 4, none⟩ = some (.int .i64 Yd1) ∧ w.cell? ⟨bd, 5, none⟩ = some (.slice Ad n cd) ∧ w.cell? ⟨br, 0, none⟩ = some (.int .i64 r0) ∧ w.cell? ⟨br, 1, none⟩ = some (.int .i64 r1) ∧ w.cell? ⟨br, 2, none⟩ = some (.int .i64 r2) ∧ w.cell? ⟨br, 3, none⟩ = some (.int .i64 r3) ∧ w.cell? ⟨bs, 0, none⟩ = some (.int .i64 ks) ∧ w.cell? ⟨bs, 1, none⟩ = some (.int .i64 X0) ∧ w.cell? ⟨bs, 2, none⟩ = some (.int .i64 Y0) ∧ w.cell? ⟨bs, 3, none⟩ = some (.int .i64 X1) ∧ w.cell? ⟨bs, 4, none⟩ = some (.int .i64 Y1) ∧ w.cell? ⟨bs, 5, none⟩ = some (.slice As n' cs) ∧ w.cell? ⟨bm, 0, none⟩ = some (.int .i64 km) ∧ w.cell? ⟨bm, 1, none⟩ = some (.int .i64 Xm0) ∧ w.cell? ⟨bm, 2, none⟩ = some (.int .i64 Ym0) ∧ w.cell? ⟨bm, 3, none⟩ = some (.int .i64 Xm1) ∧ w.cell? ⟨bm, 4, none⟩ = some (.int .i64 Ym1) ∧ w.cell? ⟨bm, 5, none⟩ = some (.slice Am n'' cm)) (hg : w.grownBy w' none) : w'.cell? ⟨bd, 0, none⟩ = some (.int .i64 kd) ∧ w'.cell? ⟨bd, 1, none⟩ = some (.int .i64 Xd0) ∧ w'.cell? ⟨bd, 2, none⟩ = some (.int .i64 Yd0) ∧ w'.cell? ⟨bd, 3, none⟩ = some (.int .i64 Xd1) ∧ w'.cell? ⟨bd, 4, none⟩ = some (.int .i64 Yd1) ∧ w'.cell? ⟨bd, 5, none⟩ = some (.slice Ad n cd) ∧ w'.cell? ⟨br, 0, none⟩ = some (.int .i64 r0) ∧ w'.cell? ⟨br, 1, none⟩ = some (.int .i64 r1) ∧ w'.cell? ⟨br, 2, none⟩ = some (.int .i64 r2) ∧ w'.cell? ⟨br, 3, none⟩ = some (.int .i64 r3) ∧ w'.cell? ⟨bs, 0, none⟩ = some (.int .i64 ks) ∧ w'.cell? ⟨bs, 1, none⟩ = some (.int .i64 X0) ∧ w'.cell? ⟨bs, 2, none⟩ = some (.int .i64 Y0) ∧ w'.cell? ⟨bs, 3, none⟩ = some (.int .i64 X1) ∧ w'.cell? ⟨bs, 4, none⟩ = some (.int .i64 Y1) ∧ w'.cell? ⟨bs, 5, none⟩ = some (.slice As n' cs) ∧ w'.cell? ⟨bm, 0, none⟩ = some (.int .i64 km) ∧ w'.cell? ⟨bm, 1, none⟩ = some (.int .i64 Xm0) ∧ w'.cell? ⟨bm, 2, none⟩ = some (.int .i64 Ym0) ∧ w'.cell? ⟨bm, 3, none⟩ = some (.int .i64 Xm1) ∧ w'.cell? ⟨bm, 4, none⟩ = some (.int .i64 Ym1) ∧ w'.cell? ⟨bm, 5, none⟩ = some (.slice Am n'' cm) := by
  obtain ⟨a0, a1, a2, a3, a4, a5, a6, a7, a8, a9, a10, a11, a12, a13, a14, a15, a16, a17, a18, a19, a20, a21⟩ := h
  have k := fun {b i : Nat} {v : Value} (hc : w.cell? ⟨b, i, none⟩ = some v) => (gb_cell0 hg (p := ⟨b, i, none⟩) (World.block_lt_of_cell? w _ hc)).trans hc
  exact ⟨k a0, k a1, k a2, k a3, k a4, k a5, k a6, k a7, k a8, k a9, k a10, k a11, k a12, k a13, k a14, k a15, k a16, k a17, k a18, k a19, k a20, k a21⟩

set_option maxRecDepth 100000 in
set_option maxHeartbeats 8000000 in
theorem idrawmask_of {w : World} {kd ks km n n' n'' cd cs cm : Nat} {Xd0 Yd0 Xd1 Yd1 dx0 dy0 dx1 dy1 X0 Y0 X1 Y1 sx0 sy0 sx1 sy1 Xm0 Ym0 Xm1 Ym1 mx0 my0 mx1 my1 r0 r1 r2 r3 px py qx qy op : Int} {p s m q : Nat → Int} {Ad As Am : Option Addr} (hkd : kd = 0 ∨ kd = 2 ∨ kd = 4)
    (hd : Rd w Ad n p) (hs : Rd w As n' s) (hm : Rd w Am n'' m) (Dd : Dat kd Xd0 Yd0 Xd1 Yd1 dx0 dy0 dx1 dy1 n p) (Ds : Dat ks X0 Y0 X1 Y1 sx0 sy0 sx1 sy1 n' s) (Dm : Dat km Xm0 Ym0 Xm1 Ym1 mx0 my0 mx1 my1 n'' m)
    (H : ∀ (w' : World) (B B' B'' c c' c'' b b' b'' : Nat) (A A' A'' : Option Addr) (td ts tm : TypeId), IM w' B dx0 dy0 dx1 dy1 n p A c b kd td → IM w' B' sx0 sy0 sx1 sy1 n' s A' c' b' ks ts → IM w' B'' mx0 my0 mx1 my1 n'' m A'' c'' b'' km tm → Apart A b' A' → Apart A b'' A'' →
      Calls Tryz.prog 42 #[.iface td (.pointer (some ⟨b, 0, none⟩)), vR r0 r1 r2 r3, .iface ts (.pointer (some ⟨b', 0, none⟩)), vP px py, .iface tm (.pointer (some ⟨b'', 0, none⟩)), vP qx qy, .int .i64 op] w' (DMout w' B n c A q)) :
    Calls Tryz.prog 21 #[vI kd Xd0 Yd0 Xd1 Yd1 Ad n cd, vR r0 r1 r2 r3, vI ks X0 Y0 X1 Y1 As n' cs, .int .i64 px, .int .i64 py, vI km Xm0 Ym0 Xm1 Ym1 Am n'' cm, .int .i64 qx, .int .i64 qy, .int .i64 op] w (Out w n q) := by
  have HH := hid H
  have Hd := hid hd
  have Hs := hid hs
  have Hm := hid hm
  have HDd := hid Dd
  have HDs := hid Ds
  have HDm := hid Dm
  have Hk := hid hkd
  clear H hd hs hm Dd Ds Dm hkd
  go_enter Tryz.func21, Tryz.ntmps21
  go_wp2_with fail
  have HX := hid (gb_trans (gb_refl w none) (gb_alloc (gb_alloc (gb_alloc (gb_alloc (gb_refl w none) (.cells #[.int .i64 kd, .int .i64 Xd0, .int .i64 Yd0, .int .i64 Xd1, .int .i64 Yd1, .slice Ad n cd] 24)) (.cells #[.int .i64 r0, .int .i64 r1, .int .i64 r2, .int .i64 r3] 25)) (.cells #[.int .i64 ks, .int .i64 X0, .int .i64 Y0, .int .i64 X1, .int .i64 Y1, .slice As n' cs] 24)) (.cells #[.int .i64 km, .int .i64 Xm0, .int .i64 Ym0, .int .i64 Xm1, .int .i64 Ym1, .slice Am n'' cm] 24)))
  go_region_held3 (fun W => W.cell? ⟨w.heap.size, 0, none⟩ = some (.int .i64 kd) ∧ W.cell? ⟨w.heap.size, 1, none⟩ = some (.int .i64 Xd0) ∧ W.cell? ⟨w.heap.size, 2, none⟩ = some (.int .i64 Yd0) ∧ W.cell? ⟨w.heap.size, 3, none⟩ = some (.int .i64 Xd1) ∧ W.cell? ⟨w.heap.size, 4, none⟩ = some (.int .i64 Yd1) ∧ W.cell? ⟨w.heap.size, 5, none⟩ = some (.slice Ad n cd) ∧ W.cell? ⟨w.heap.size + 1, 0, none⟩ = some (.int .i64 r0) ∧ W.cell? ⟨w.heap.size + 1, 1, none⟩ = some (.int .i64 r1) ∧ W.cell? ⟨w.heap.size + 1, 2, none⟩ = some (.int .i64 r2) ∧ W.cell? ⟨w.heap.size + 1, 3, none⟩ = some (.int .i64 r3) ∧ W.cell? ⟨w.heap.size + 2, 0, none⟩ = some (.int .i64 ks) ∧ W.cell? ⟨w.heap.size + 2, 1, none⟩ = some (.int .i64 X0) ∧ W.cell? ⟨w.heap.size + 2, 2, none⟩ = some (.int .i64 Y0) ∧ W.cell? ⟨w.heap.size + 2, 3, none⟩ = some (.int .i64 X1) ∧ W.cell? ⟨w.heap.size + 2, 4, none⟩ = some (.int .i64 Y1) ∧ W.cell? ⟨w.heap.size + 2, 5, none⟩ = some (.slice As n' cs) ∧ W.cell? ⟨w.heap.size + 3, 0, none⟩ = some (.int .i64 km) ∧ W.cell? ⟨w.heap.size + 3, 1, none⟩ = some (.int .i64 Xm0) ∧ W.cell? ⟨w.heap.size + 3, 2, none⟩ = some (.int .i64 Ym0) ∧ W.cell? ⟨w.heap.size + 3, 3, none⟩ = some (.int .i64 Xm1) ∧ W.cell? ⟨w.heap.size + 3, 4, none⟩ = some (.int .i64 Ym1) ∧ W.cell? ⟨w.heap.size + 3, 5, none⟩ = some (.slice Am n'' cm)) (first | go_simp | assumption)
    (first
    | (go_at_call_of 36 (Value.slice Ad n cd); refine (image_c _ (Hd.out.kept0 (gb_drew HX.out)) HDd.out.2.2.1).mono ?_; rintro e w2 ⟨A, c, rfl, ho2, hg2⟩
       have HS2 := box4_kept (by assumption) hg2
       have HG2 := hid (gb_trans (gb_drew HX.out) hg2)
       have HO2 := hid ho2
       clear hg2 ho2)
    | (go_at_call_of 36 (Value.slice As n' cs); refine (image_c _ (Hs.out.kept0 HG2.out) HDs.out.2.2.1).mono ?_; rintro e w3 ⟨A', c', rfl, ho3, hg3⟩
       have HS3 := box4_kept (by assumption) hg3
       have HG3 := hid (gb_trans HG2.out hg3)
       have HO3 := hid ho3
       have HO2' := hid (HO2.out.kept0 hg3)
       clear hg3 ho3)
    | (go_at_call_of 36 (Value.slice Am n'' cm); refine (image_c _ (Hm.out.kept0 HG3.out) HDm.out.2.2.1).mono ?_; rintro e w4 ⟨A'', c'', rfl, ho4, hg4⟩
       have HS4 := box4_kept (by assumption) hg4
       have HG4 := hid (gb_trans HG3.out hg4)
       have HO4 := hid ho4
       have HO3' := hid (HO3.out.kept0 hg4)
       have HO2'' := hid (HO2'.out.kept0 hg4)
       clear hg4 ho4)
    | (go_at_call 35; refine (zzdrawmask_of Hk.out HO2''.out.rd HO3'.out.rd HO4.out.rd HDd.out HDs.out HDm.out HH.out).mono ?_; rintro e w5 ⟨A5, c5, rfl, ho5, hg5⟩
       have HS5 := box4_kept (by assumption) hg5
       have hz5 := HG4.out.size
       have HF := hid (And.intro (ho5.low (B' := w.heap.size) hz5) (gb_trans HG4.out hg5))
       clear hg5 ho5 hz5))
  all_goals (
    go_wp2_with fail
    go_ret
    exact ⟨_, _, rfl, HF.out.1, HF.out.2⟩)
end Go.Proofs.YtgjpohmjkhgpfaaGreat

namespace Go.Proofs.YtgjpohmjkhgpfaaGreat
open Go.RowKit

theorem pm4_of {p : Nat → Int} {j : Nat} (h : wd (fun i => p (8 * j + i)) 0 ≤ wd (fun i => p (8 * j + i)) 3 ∧ wd (fun i => p (8 * j + i)) 1 ≤ wd (fun i => p (8 * j + i)) 3 ∧ wd (fun i => p (8 * j + i)) 2 ≤ wd (fun i => p (8 * j + i)) 3) {k : Nat} (hk : k = 4 ∨ k = 6) : Pm k (fun ch => p (j * 8 + ch)) := by
  intro i hi
  have e : ∀ q : Nat → Int, cl k q i = wd q i ∧ cl k q 3 = wd q 3 := fun q => by rcases hk with rfl | rfl <;> exact ⟨rfl, rfl⟩
  rw [(e _).1, (e _).2, Nat.mul_comm j 8]
  have hi' : i = 0 ∨ i = 1 ∨ i = 2 := by omega
  rcases hi' with rfl | rfl | rfl
  · exact h.1
  · exact h.2.1
  · exact h.2.2
theorem pm_zero {k : Nat} {q : Nat → Int} (hk : k = 0 ∨ k = 4 ∨ k = 6) (h : ∀ i, q i = 0) : Pm k q := by
  intro i _
  rcases hk with rfl | rfl | rfl
  · rw [cl0, cl0, h, h]; exact Int.le_refl _
  · rw [cl4, cl4, h, h, h, h]; exact Int.le_refl _
  · rw [cl6, cl6, h, h, h, h]; exact Int.le_refl _
/-- what a valid image is, in the package's terms -/
theorem vk_all {k : Nat} {X0 Y0 X1 Y1 : Int} {n : Nat} {p : Nat → Int} (h : VK k X0 Y0 X1 Y1 n p) (hp : By p) (hz : ∀ i, n ≤ i → p i = 0) (hn : n ≤ 2147483647) :
    k ≤ 6 ∧ Pmk k p ∧ ∃ (hh wd : Nat) (sx0 sy0 sx1 sy1 : Int), Geo k sx0 sy0 sx1 sy1 n hh wd ∧ Dat k X0 Y0 X1 Y1 sx0 sy0 sx1 sy1 n p ∧ AtOK k X0 Y0 X1 n hh wd ∧ sx1 = sx0 + wd ∧ sy1 = sy0 + hh ∧
      (k = 6 ∨ (sx0 = X0 ∧ sy0 = Y0 ∧ sx1 = X1 ∧ sy1 = Y1)) ∧ (-1000000000 ≤ sx0 ∧ sx0 ≤ 1000000000 ∧ -1000000000 ≤ sy0 ∧ sy0 ≤ 1000000000 ∧ -1000000000 ≤ sx1 ∧ sx1 ≤ 1000000000 ∧ -1000000000 ≤ sy1 ∧ sy1 ≤ 1000000000) := by
  by_cases h6 : k = 6
  · subst h6
    rcases h with ⟨h, -⟩ | ⟨-, rfl, hm⟩
    · omega
    · refine ⟨by omega, fun j => ?_, 2000000000, 2000000000, -1000000000, -1000000000, 1000000000, 1000000000, .inl ⟨rfl, rfl, rfl, rfl, rfl, rfl, rfl, rfl⟩, ⟨hp, by omega, by omega, fun _ => rfl, .inl rfl, .inl rfl, rfl, rfl, rfl, rfl⟩, .inl ⟨rfl, rfl⟩, by omega, by omega, .inl rfl, by omega⟩
      show Pm 6 (fun ch => p (j * 8 + ch))
      by_cases hj : j = 0
      · subst hj
        exact pm4_of (hm 0 (by omega)) (.inr rfl)
      · exact pm_zero (.inr (.inr rfl)) (fun i => hz _ (by omega))
  · have hk : k < 6 := by rcases h with ⟨h, -⟩ | ⟨h, -⟩ <;> omega
    obtain ⟨hh, wd, G, e1, e2, hnn, l1, l2, v1, v2, v3, v4⟩ := vk_geo hk h
    refine ⟨by omega, fun j => ?_, hh, wd, X0, Y0, X1, Y1, G, ?_, .inr ⟨hk, by omega, hnn, l1, l2, by omega, by omega, by omega, by omega⟩, e1, e2, .inr ⟨rfl, rfl, rfl, rfl⟩, by omega⟩
    · have hk' : (k = 1 ∨ k = 2 ∨ k = 3 ∨ k = 5) ∨ k = 0 ∨ k = 4 := by omega
      rcases hk' with h' | rfl | rfl
      · exact Pm_of (fun i => hp _) h'
      · rcases h with ⟨-, -, -, hm, -⟩ | ⟨h, -⟩
        · have hm' : Mul0 p (n / 4) := hm rfl
          have hnn' : n = hh * (wd * 4) := hnn
          rw [← Nat.mul_assoc] at hnn'
          show Pm 0 (fun ch => p (j * 4 + ch))
          by_cases hj : j < hh * wd
          · have := hm' j (by omega)
            intro i hi
            show p (j * 4 + i) * 257 ≤ p (j * 4 + 3) * 257
            rw [Nat.mul_comm j 4]
            have hi' : i = 0 ∨ i = 1 ∨ i = 2 := by omega
            rcases hi' with rfl | rfl | rfl <;> (try simp only [Nat.add_zero]) <;> omega
          · exact pm_zero (.inl rfl) (fun i => hz _ (by omega))
        · cases h
      · rcases h with ⟨-, -, -, -, hm⟩ | ⟨h, -⟩
        · have hm' : Mul8 p (n / 8) := hm rfl
          have hnn' : n = hh * (wd * 8) := hnn
          rw [← Nat.mul_assoc] at hnn'
          show Pm 4 (fun ch => p (j * 8 + ch))
          by_cases hj : j < hh * wd
          · exact pm4_of (hm' j (by omega)) (.inl rfl)
          · exact pm_zero (.inr (.inl rfl)) (fun i => hz _ (by omega))
        · cases h
    · have b : ∀ f x, bdk k f x = x := fun f x => by unfold bdk; rw [if_neg h6]
      exact ⟨hp, by omega, by omega, by omega, .inr (by unfold sm; omega), .inr (by unfold sm; omega), b _ _, b _ _, b _ _, b _ _⟩
/-- the reference's bounds of an image -/
theorem sbounds_k {k : Nat} {X0 Y0 X1 Y1 sx0 sy0 sx1 sy1 : Int} {n : Nat} {p : Nat → Int} (D : Dat k X0 Y0 X1 Y1 sx0 sy0 sx1 sy1 n p) (A : Option Addr) (m c : Nat) (w : World) :
    Calls Tryz.prog 19 #[vI k X0 Y0 X1 Y1 A m c] w fun e w' => e = .returned (vR sx0 sy0 sx1 sy1) ∧ w.grownBy w' none := by
  obtain ⟨-, -, -, -, -, -, h0, h1, h2, h3⟩ := D
  refine (sbounds_c k X0 Y0 X1 Y1 A m c w).mono ?_
  rintro e w' ⟨rfl, hg⟩
  refine ⟨?_, hg⟩
  unfold bdk at h0 h1 h2 h3
  by_cases h : k = 6
  · subst h
    rw [if_pos rfl] at h0 h1 h2 h3
    subst h0 h1 h2 h3
    rfl
  · rw [if_neg h] at h0 h1 h2 h3
    subst h0 h1 h2 h3
    have e : decide ((k : Int) = 6) = false := decide_eq_false (by omega)
    rw [e]; rfl

/-- the values, the variables, and one operation (i0) that yields a row of bytes of its own -/
def JO (W0 : World) (V : List (Option Value)) (vs : List (Nat × Nat × List Value)) (i0 B n : Nat) (q : Nat → Int) (l : Nat → Bool) (t : Nat → Value) (w : World) : Prop :=
  JV W0 V vs l t w ∧ (l i0 = true → ∃ A c, t i0 = .slice A n c ∧ Own w B n q A c)
section
variable {W0 w w' : World} {V : List (Option Value)} {vs : List (Nat × Nat × List Value)} {l : Nat → Bool} {t : Nat → Value} {i i0 B n : Nat} {q : Nat → Int}
theorem JO.start (hg : W0.grownBy w none) : JO W0 V vs i0 B n q (fun _ => false) t w := ⟨JV.start hg, fun h => (by cases h)⟩
theorem JO.pure (h : JO W0 V vs i0 B n q l t w) (hg : w.grownBy w' none) {v : Value} (hv : V[i]? = some (some v)) (hni : niB vs i = true) (hne : (i0 != i) = true) : JO W0 V vs i0 B n q (upd l i true) (upd t i v) w' := by
  have hne' : i0 ≠ i := by simpa using hne
  refine ⟨h.1.pure hg hv hni, fun hl => ?_⟩
  rw [upd_ne _ _ hne'] at hl ⊢
  obtain ⟨A, c, e, ho⟩ := h.2 hl
  exact ⟨A, c, e, ho.kept0 hg⟩
theorem JO.own (h : JO W0 V vs i0 B n q l t w) (hg : w.grownBy w' none) (hv : V[i0]? = some none) (hni : niB vs i0 = true) {A : Option Addr} {c : Nat} (ho : Own w' B n q A c) : JO W0 V vs i0 B n q (upd l i0 true) (upd t i0 (.slice A n c)) w' := by
  have hni := niB_spec hni
  obtain ⟨⟨h1, h2, h3, h4, h5⟩, -⟩ := h
  refine ⟨⟨gb_trans h1 hg, fun j u hu hl => ?_, fun x hx hl => ?_, fun x y hx hy hne hlx hly => ?_, fun x hx hl => (by rw [upd_ne _ _ (hni x hx).2] at hl; rw [upd_ne _ _ (hni x hx).1]; exact h5 x hx hl)⟩, fun _ => ⟨A, c, upd_same _ _ _, ho⟩⟩
  · by_cases e : j = i0
    · subst e
      rw [hv] at hu
      cases hu
    · rw [upd_ne _ _ e] at hl ⊢
      exact h2 j u hu hl
  · obtain ⟨n1, n2⟩ := hni x hx
    rw [upd_ne _ _ n1] at hl ⊢
    rw [upd_ne _ _ n2]
    obtain ⟨g, e1, e2, e3, e4, e5⟩ := h3 x hx hl
    refine ⟨g, e1, e2, Nat.lt_of_lt_of_le e3 hg.size, fun k hk => ?_, fun hs k v' hv' => ?_⟩
    · obtain ⟨⟨u, hu⟩, hf⟩ := e4 k hk
      exact ⟨⟨u, (gb_cell0 hg (p := ⟨g, k, none⟩) e3).trans hu⟩, (gb_free0 hg (p := ⟨g, k, none⟩) e3).trans hf⟩
    · exact (gb_cell0 hg (p := ⟨g, k, none⟩) e3).trans (e5 hs k v' hv')
  · rw [upd_ne _ _ (hni x hx).1] at hlx ⊢
    rw [upd_ne _ _ (hni y hy).1] at hly ⊢
    exact h4 x y hx hy hne hlx hly
end

theorem and1 (x : Int) : ∃ o : Nat, o ≤ 1 ∧ bits .and .i64 x 1 = o := by
  have h : bits .and .i64 x 1 = IntKind.i64.wrap ((BitVec.ofInt 64 x &&& BitVec.ofInt 64 1).toNat : Int) := rfl
  have h1 : (BitVec.ofInt 64 1).toNat = 1 := by decide
  have h2 : (BitVec.ofInt 64 x &&& BitVec.ofInt 64 1).toNat ≤ 1 := by rw [BitVec.toNat_and, h1, Nat.and_one_is_mod]; omega
  refine ⟨_, h2, ?_⟩
  rw [h, IntKind.wrap_i64]
  omega
end Go.Proofs.YtgjpohmjkhgpfaaGreat
