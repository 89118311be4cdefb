/- What the law FnHalves needs: where a row of bytes of one's own lies. No condition. -/
import Derived.Test.YtgjpohmjkhgpfaaGreatHLMV
import Derived.Test.YtgjpohmjkhgpfaaGreatHLX
set_option linter.unusedSimpArgs false
set_option linter.unusedVariables false
namespace Go.Proofs.YtgjpohmjkhgpfaaGreat
open Go.RowKit

theorem own_blk {w : World} {B n c : Nat} {p : Nat → Int} {A : Option Addr} (h : Own w B n p A c) : ∀ a, A = some a → B ≤ a.block ∧ a.block < w.heap.size := by
  intro a ha
  rcases h with ⟨-, e, -⟩ | ⟨g, C, e, hB, hg, -⟩
  · rw [e] at ha
    cases ha
  · rw [e] at ha
    cases ha
    exact ⟨hB, lt_of_block hg⟩
end Go.Proofs.YtgjpohmjkhgpfaaGreat
