/- The laws' fine: are places within bounds. No condition. -/
import Derived.Test.YtgjpohmjkhgpfaaGreatLB
set_option linter.unusedSimpArgs false
set_option linter.unusedVariables false
namespace Go.Proofs.YtgjpohmjkhgpfaaGreat
open Go.RowKit

def FineOut (w : World) (n : Nat) (l : Nat → Int) (e : Ending) (w' : World) : Prop := (∃ b, e = .returned (.bool b) ∧ (b = true → ∀ i, i < n → nr (l i))) ∧ w = w'
set_option maxRecDepth 100000 in
set_option maxHeartbeats 4000000 in
theorem fine_c {g n c : Nat} {l : Nat → Int} (w : World) (hc : ∀ i, i < n → w.cell? ⟨g, i, none⟩ = some (.int .i64 (l i))) (hn : n ≤ 100) :
    Calls Tryz.prog 17 #[.slice (some ⟨g, 0, none⟩) n c] w (FineOut w n l) := by
  have HC := hid hc
  clear hc
  go_enter Tryz.func17, Tryz.ntmps17
  go_wp2
  go_loop [7] (fun u => ∃ j : Nat, j ≤ n ∧ u = .int .i64 j ∧ ∀ i, i < j → nr (l i)) (fun u => n - (intOf u).toNat)
  case atStart => exact ⟨0, by omega, rfl, fun i hi => absurd hi (by omega)⟩
  case round =>
    obtain ⟨j, hj, rfl, hl⟩ := hrel
    have HL := hid hl
    clear hl
    by_cases hlt : j < n
    · have k0 := HC.out j hlt
      by_cases g1 : l j < -1000
      · go_wp2
        go_ret
        exact ⟨⟨false, rfl, fun h => Bool.noConfusion h⟩, rfl⟩
      · by_cases g2 : 1000 < l j
        · go_wp2
          go_ret
          exact ⟨⟨false, rfl, fun h => Bool.noConfusion h⟩, rfl⟩
        · go_wp2
          go_round
          case rel =>
            refine ⟨j + 1, by omega, by go_num, fun i hi => ?_⟩
            by_cases e : i < j
            · exact HL.out i e
            · obtain rfl : i = j := by omega
              exact ⟨by omega, by omega⟩
          case measure => simp [intOf]; omega
    · go_wp2
      go_ret
      exact ⟨⟨true, rfl, fun _ i hi => HL.out i (by omega)⟩, rfl⟩
end Go.Proofs.YtgjpohmjkhgpfaaGreat
