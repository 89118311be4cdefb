/- What is given back of a drawn image: its pixels' slice. The destination is RGBA, RGBA64 or Alpha. -/
import Derived.Test.YtgjpohmjkhgpfaaGreatZ1
import Derived.Test.YtgjpohmjkhgpfaaGreatTA
set_option linter.unusedSimpArgs false
set_option linter.unusedVariables false
namespace Go.Proofs.YtgjpohmjkhgpfaaGreat
open Go.RowKit

set_option maxRecDepth 100000 in
set_option maxHeartbeats 4000000 in
theorem pixels_RGBA {b n c : Nat} {A : Option Addr} (w : World) (h : w.cell? ⟨b, 0, none⟩ = some (.slice A n c)) :
    Calls Tryz.prog 44 #[.iface 85 (.pointer (some ⟨b, 0, none⟩))] w fun e w' => e = .returned (.slice A n c) ∧ w = w' := by
  go_enter Tryz.func44, Tryz.ntmps44
  go_wp2
  go_ret
  exact ⟨rfl, rfl⟩
set_option maxRecDepth 100000 in
set_option maxHeartbeats 4000000 in
theorem pixels_Alpha {b n c : Nat} {A : Option Addr} (w : World) (h : w.cell? ⟨b, 0, none⟩ = some (.slice A n c)) :
    Calls Tryz.prog 44 #[.iface 90 (.pointer (some ⟨b, 0, none⟩))] w fun e w' => e = .returned (.slice A n c) ∧ w = w' := by
  go_enter Tryz.func44, Tryz.ntmps44
  go_wp2
  go_ret
  exact ⟨rfl, rfl⟩
set_option maxRecDepth 100000 in
set_option maxHeartbeats 4000000 in
theorem pixels_RGBA64 {b n c : Nat} {A : Option Addr} (w : World) (h : w.cell? ⟨b, 0, none⟩ = some (.slice A n c)) :
    Calls Tryz.prog 44 #[.iface 94 (.pointer (some ⟨b, 0, none⟩))] w fun e w' => e = .returned (.slice A n c) ∧ w = w' := by
  go_enter Tryz.func44, Tryz.ntmps44
  go_wp2
  go_ret
  exact ⟨rfl, rfl⟩
end Go.Proofs.YtgjpohmjkhgpfaaGreat
