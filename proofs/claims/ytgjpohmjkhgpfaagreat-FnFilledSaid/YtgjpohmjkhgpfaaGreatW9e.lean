/- image/draw: drawCopyOver: each pixel of the rectangle is composed, all others stay, from the image itself too. The rectangle lies in both images. -/
import Derived.Test.YtgjpohmjkhgpfaaGreatW9b
import Derived.Test.YtgjpohmjkhgpfaaGreatW9c
import Derived.Test.YtgjpohmjkhgpfaaGreatW9d
set_option linter.unusedSimpArgs false
set_option linter.unusedVariables false
namespace Go.Proofs.YtgjpohmjkhgpfaaGreat
open Go.RowKit

theorem drawCopyOver_c {bd pd dh dw bs ps sh sw rx ry xe ye sx sy : Nat} {dx0 dy0 sx0 sy0 x0 y0 x1 y1 spx spy : Int} {D S : Nat → Nat → Nat → Int} {T1 T2 : TypeId} (w : World)
    (Hd : Pic w bd T1 pd 4 dh dw dx0 dy0 D) (Hs : Pic w bs T2 ps 4 sh sw sx0 sy0 S) (hal : Al bd pd bs ps dh dw sh sw dx0 dy0 sx0 sy0 D S) (hpm : ∀ r c, Pm 0 (S r c))
    (HR : Rct x0 y0 x1 y1 dx0 dy0 rx ry xe ye dh dw) (HP : Plc spx spy sx0 sy0 sx sy rx ry xe ye sh sw) :
    Calls Tryz.prog 53 #[.pointer (some ⟨bd, 0, none⟩), vR x0 y0 x1 y1, .pointer (some ⟨bs, 0, none⟩), vP spx spy] w
      (Drawn w pd 4 dh dw rx ry xe ye (fun r c => px0 0 0 0 (D r c) (S (sy + (r - ry)) (sx + (c - rx)))) D) := by
  rcases Int.lt_trichotomy y0 spy with h | h | h
  · exact drawCopyOver_a w Hd Hs hal hpm HR HP h
  · subst h
    by_cases h : x0 ≤ spx
    · exact drawCopyOver_b w Hd Hs hal hpm HR HP h
    · exact drawCopyOver_d w Hd Hs hal hpm HR HP (by omega)
  · exact drawCopyOver_c' w Hd Hs hal hpm HR HP h
end Go.Proofs.YtgjpohmjkhgpfaaGreat
