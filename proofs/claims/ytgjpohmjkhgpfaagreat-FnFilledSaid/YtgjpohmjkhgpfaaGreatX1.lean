/- image/draw: DrawMask, onto RGBA from RGBA by Over: each pixel of the rectangle is composed, all others stay. -/
import Derived.Test.YtgjpohmjkhgpfaaGreatX0
import Derived.Test.YtgjpohmjkhgpfaaGreatTA
import Derived.Test.YtgjpohmjkhgpfaaGreatW9e
set_option linter.unusedSimpArgs false
set_option linter.unusedVariables false
namespace Go.Proofs.YtgjpohmjkhgpfaaGreat
open Go.RowKit

set_option maxRecDepth 100000 in
set_option maxHeartbeats 8000000 in
theorem dm_0_0_0 {bd pd dh dw bs ps sh sw rx ry xe ye sx sy : Nat} {dx0 dy0 sx0 sy0 x0 y0 x1 y1 px py qx qy b0 b1 b2 b3 p0 p1 q0 q1 : Int} {D S : Nat → Nat → Nat → Int} (w : World)
    (hD : Pic w bd 87 pd 4 dh dw dx0 dy0 D) (hS : Pic w bs 87 ps 4 sh sw sx0 sy0 S) (hal : Al bd pd bs ps dh dw sh sw dx0 dy0 sx0 sy0 D S) (hpm : ∀ r c, Pm 0 (S r c))
    (hC : Cl0 x0 y0 x1 y1 px py qx qy dx0 dy0 (dx0 + dw) (dy0 + dh) sx0 sy0 (sx0 + sw) (sy0 + sh) b0 b1 b2 b3 p0 p1 q0 q1)
    (hR : Rct b0 b1 b2 b3 dx0 dy0 rx ry xe ye dh dw) (hP : Plc p0 p1 sx0 sy0 sx sy rx ry xe ye sh sw) :
    Calls Tryz.prog 42 #[.iface 85 (.pointer (some ⟨bd, 0, none⟩)), vR x0 y0 x1 y1, .iface 85 (.pointer (some ⟨bs, 0, none⟩)), vP px py, .nilIface, vP qx qy, .int .i64 0] w
      (Drawn w pd 4 dh dw rx ry xe ye (fun r c => px0 0 0 0 (D r c) (S (sy + (r - ry)) (sx + (c - rx)))) D) := by
  have HC := hid hC
  have Hem := hid (rct_ne hR)
  have HR := hid hR
  have HP := hid hP
  have HD := hid hD
  have HS := hid hS
  clear hC hR hP hD hS
  go_enter Tryz.func42, Tryz.ntmps42
  go_wp2_with fail
  refine (clip0_k HC.out (w0 := w) (gb_alloc (gb_alloc (gb_alloc (gb_refl _ _) _) _) _) (Nat.le_refl _) (by omega) (by omega) (by omega) (by omega) (by omega) (Src.k0 HD.out).bd (Src.k0 HS.out).bd (cp_start _ _ _ _ _ _ _ _ _)).mono ?_
  rintro e w1 ⟨rfl, hg, ⟨c0, c1, c2, c3, k0, k1, l0, l1, fr, fp, fq⟩⟩
  have z1 : w.heap.size < w1.heap.size := World.block_lt_of_cell? w1 _ c0
  have z2 : w.heap.size + 1 < w1.heap.size := World.block_lt_of_cell? w1 _ k0
  have z3 : w.heap.size + 2 < w1.heap.size := World.block_lt_of_cell? w1 _ l0
  clear fr fp fq
  have Hg := hid hg
  clear hg
  go_wp2_with fail
  refine (empty_c b0 b1 b2 b3 _).mono ?_
  rintro e w2 ⟨rfl, rfl⟩
  rw [Hem.out]
  go_wp2_with fail
  have HG := hid (gb_alloc Hg.out (.cells #[.int .i64 b0, .int .i64 b1, .int .i64 b2, .int .i64 b3] 78))
  refine Calls.mono (drawCopyOver_c _ (HD.out.kept0 HG.out) (HS.out.kept0 HG.out) hal hpm HR.out HP.out) ?_
  rintro e w3 h3
  have h4 := drawn_of HG.out h3
  obtain ⟨rfl, h5⟩ := h4
  have H5 := hid h5
  clear h3 h5
  go_wp2
  exact bodyPost_ret (v := .tuple #[]) (by simp [results, Tryz.results42]) rfl ⟨rfl, H5.out⟩
end Go.Proofs.YtgjpohmjkhgpfaaGreat
