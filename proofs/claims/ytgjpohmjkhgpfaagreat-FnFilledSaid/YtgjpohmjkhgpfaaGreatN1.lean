/- An image that was made of data, as it lies in memory: its bounds, and its pixels, if it has any. No condition. -/
import Derived.Test.YtgjpohmjkhgpfaaGreatZ2
import Derived.Test.YtgjpohmjkhgpfaaGreatZ3
import Derived.Test.YtgjpohmjkhgpfaaGreatV0
set_option linter.unusedSimpArgs false
set_option linter.unusedVariables false
namespace Go.Proofs.YtgjpohmjkhgpfaaGreat
open Go.RowKit

/-- its struct in block b, its pixels in a row of its own -/
def IMf (w : World) (B T st : Nat) (x0 y0 x1 y1 : Int) (n : Nat) (p : Nat → Int) (A : Option Addr) (c b : Nat) : Prop :=
  B ≤ b ∧ w.heap[b]? = some (.cells #[.slice A n c, .int .i64 ((st : Int) * (x1 - x0)), .int .i64 x0, .int .i64 y0, .int .i64 x1, .int .i64 y1] T (0, 0)) ∧ Own w B n p A c ∧ (∀ a, A = some a → a.block ≠ b)
/-- of kind k, its type t; what was made lies in blocks from B on -/
inductive IM (w : World) (B : Nat) (x0 y0 x1 y1 : Int) (n : Nat) (p : Nat → Int) (A : Option Addr) (c b : Nat) : Nat → TypeId → Prop
  | k0 : IMf w B 87 4 x0 y0 x1 y1 n p A c b → IM w B x0 y0 x1 y1 n p A c b 0 85
  | k1 : IMf w B 89 4 x0 y0 x1 y1 n p A c b → IM w B x0 y0 x1 y1 n p A c b 1 88
  | k2 : IMf w B 91 1 x0 y0 x1 y1 n p A c b → IM w B x0 y0 x1 y1 n p A c b 2 90
  | k3 : IMf w B 93 1 x0 y0 x1 y1 n p A c b → IM w B x0 y0 x1 y1 n p A c b 3 92
  | k4 : IMf w B 95 8 x0 y0 x1 y1 n p A c b → IM w B x0 y0 x1 y1 n p A c b 4 94
  | k5 : IMf w B 97 4 x0 y0 x1 y1 n p A c b → IM w B x0 y0 x1 y1 n p A c b 5 96
  | k6 : A = none → B ≤ b → b < w.heap.size → w.cell? ⟨b, 0, none⟩ = some (.iface 103 (c64 (cl 6 p))) → x0 = -1000000000 → y0 = -1000000000 → x1 = 1000000000 → y1 = 1000000000 → IM w B x0 y0 x1 y1 n p A c b 6 100

section
variable {w w' : World} {B n c b k : Nat} {T st : Nat} {x0 y0 x1 y1 : Int} {p : Nat → Int} {A : Option Addr} {t : TypeId}
theorem IMf.kept0 (h : IMf w B T st x0 y0 x1 y1 n p A c b) (hg : w.grownBy w' none) : IMf w' B T st x0 y0 x1 y1 n p A c b :=
  ⟨h.1, (gb_block0 hg (lt_of_block h.2.1)).trans h.2.1, h.2.2.1.kept0 hg, h.2.2.2⟩
theorem IMf.low (h : IMf w B T st x0 y0 x1 y1 n p A c b) {B' : Nat} (hB : B' ≤ B) : IMf w B' T st x0 y0 x1 y1 n p A c b :=
  ⟨Nat.le_trans hB h.1, h.2.1, h.2.2.1.low hB, h.2.2.2⟩
theorem IM.kept0 (h : IM w B x0 y0 x1 y1 n p A c b k t) (hg : w.grownBy w' none) : IM w' B x0 y0 x1 y1 n p A c b k t := by
  cases h
  case k6 h0 h1 h2 h3 e1 e2 e3 e4 => exact .k6 h0 h1 (Nat.lt_of_lt_of_le h2 hg.size) ((gb_cell0 hg h2).trans h3) e1 e2 e3 e4
  case k0 h => exact .k0 (h.kept0 hg)
  case k1 h => exact .k1 (h.kept0 hg)
  case k2 h => exact .k2 (h.kept0 hg)
  case k3 h => exact .k3 (h.kept0 hg)
  case k4 h => exact .k4 (h.kept0 hg)
  case k5 h => exact .k5 (h.kept0 hg)
theorem IM.low (h : IM w B x0 y0 x1 y1 n p A c b k t) {B' : Nat} (hB : B' ≤ B) : IM w B' x0 y0 x1 y1 n p A c b k t := by
  cases h
  case k6 h0 h1 h2 h3 e1 e2 e3 e4 => exact .k6 h0 (Nat.le_trans hB h1) h2 h3 e1 e2 e3 e4
  case k0 h => exact .k0 (h.low hB)
  case k1 h => exact .k1 (h.low hB)
  case k2 h => exact .k2 (h.low hB)
  case k3 h => exact .k3 (h.low hB)
  case k4 h => exact .k4 (h.low hB)
  case k5 h => exact .k5 (h.low hB)
theorem IM.alt (h : IM w B x0 y0 x1 y1 n p A c b k t) : ∀ a, A = some a → a.block < w.heap.size ∧ B ≤ a.block := by
  cases h
  case k6 h0 h1 h2 h3 e1 e2 e3 e4 => intro a ha; rw [h0] at ha; cases ha
  case k0 h => exact h.2.2.1.lt
  case k1 h => exact h.2.2.1.lt
  case k2 h => exact h.2.2.1.lt
  case k3 h => exact h.2.2.1.lt
  case k4 h => exact h.2.2.1.lt
  case k5 h => exact h.2.2.1.lt
theorem IM.ge (h : IM w B x0 y0 x1 y1 n p A c b k t) : B ≤ b ∧ b < w.heap.size := by
  cases h
  case k6 h0 h1 h2 h3 e1 e2 e3 e4 => exact ⟨h1, h2⟩
  case k0 h => exact ⟨h.1, lt_of_block h.2.1⟩
  case k1 h => exact ⟨h.1, lt_of_block h.2.1⟩
  case k2 h => exact ⟨h.1, lt_of_block h.2.1⟩
  case k3 h => exact ⟨h.1, lt_of_block h.2.1⟩
  case k4 h => exact ⟨h.1, lt_of_block h.2.1⟩
  case k5 h => exact ⟨h.1, lt_of_block h.2.1⟩

set_option maxRecDepth 100000 in
set_option maxHeartbeats 2000000 in
theorem bnd_RGBA {T st : Nat} (w : World) (H : IMf w B T st x0 y0 x1 y1 n p A c b) :
    Calls Tryz.prog 126 #[.pointer (some ⟨b, 0, none⟩)] w fun e w' => e = .returned (vR x0 y0 x1 y1) ∧ w.grownBy w' none := by
  have D2 : w.cell? ⟨b, 2, none⟩ = some (.int .i64 x0) := cell_at H.2.1 rfl
  have D3 : w.cell? ⟨b, 3, none⟩ = some (.int .i64 y0) := cell_at H.2.1 rfl
  have D4 : w.cell? ⟨b, 4, none⟩ = some (.int .i64 x1) := cell_at H.2.1 rfl
  have D5 : w.cell? ⟨b, 5, none⟩ = some (.int .i64 y1) := cell_at H.2.1 rfl
  have bl : b < w.heap.size := lt_of_block H.2.1
  clear H
  go_enter Tryz.func126, Tryz.ntmps126
  go_wp2
  exact bodyPost_ret (v := vR x0 y0 x1 y1) (by simp [results, Tryz.results126, go_sem]) rfl ⟨rfl, gb_alloc (gb_refl _ _) _⟩

set_option maxRecDepth 100000 in
set_option maxHeartbeats 2000000 in
theorem bnd_NRGBA {T st : Nat} (w : World) (H : IMf w B T st x0 y0 x1 y1 n p A c b) :
    Calls Tryz.prog 136 #[.pointer (some ⟨b, 0, none⟩)] w fun e w' => e = .returned (vR x0 y0 x1 y1) ∧ w.grownBy w' none := by
  have D2 : w.cell? ⟨b, 2, none⟩ = some (.int .i64 x0) := cell_at H.2.1 rfl
  have D3 : w.cell? ⟨b, 3, none⟩ = some (.int .i64 y0) := cell_at H.2.1 rfl
  have D4 : w.cell? ⟨b, 4, none⟩ = some (.int .i64 x1) := cell_at H.2.1 rfl
  have D5 : w.cell? ⟨b, 5, none⟩ = some (.int .i64 y1) := cell_at H.2.1 rfl
  have bl : b < w.heap.size := lt_of_block H.2.1
  clear H
  go_enter Tryz.func136, Tryz.ntmps136
  go_wp2
  exact bodyPost_ret (v := vR x0 y0 x1 y1) (by simp [results, Tryz.results136, go_sem]) rfl ⟨rfl, gb_alloc (gb_refl _ _) _⟩

set_option maxRecDepth 100000 in
set_option maxHeartbeats 2000000 in
theorem bnd_Alpha {T st : Nat} (w : World) (H : IMf w B T st x0 y0 x1 y1 n p A c b) :
    Calls Tryz.prog 145 #[.pointer (some ⟨b, 0, none⟩)] w fun e w' => e = .returned (vR x0 y0 x1 y1) ∧ w.grownBy w' none := by
  have D2 : w.cell? ⟨b, 2, none⟩ = some (.int .i64 x0) := cell_at H.2.1 rfl
  have D3 : w.cell? ⟨b, 3, none⟩ = some (.int .i64 y0) := cell_at H.2.1 rfl
  have D4 : w.cell? ⟨b, 4, none⟩ = some (.int .i64 x1) := cell_at H.2.1 rfl
  have D5 : w.cell? ⟨b, 5, none⟩ = some (.int .i64 y1) := cell_at H.2.1 rfl
  have bl : b < w.heap.size := lt_of_block H.2.1
  clear H
  go_enter Tryz.func145, Tryz.ntmps145
  go_wp2
  exact bodyPost_ret (v := vR x0 y0 x1 y1) (by simp [results, Tryz.results145, go_sem]) rfl ⟨rfl, gb_alloc (gb_refl _ _) _⟩

set_option maxRecDepth 100000 in
set_option maxHeartbeats 2000000 in
theorem bnd_Gray {T st : Nat} (w : World) (H : IMf w B T st x0 y0 x1 y1 n p A c b) :
    Calls Tryz.prog 155 #[.pointer (some ⟨b, 0, none⟩)] w fun e w' => e = .returned (vR x0 y0 x1 y1) ∧ w.grownBy w' none := by
  have D2 : w.cell? ⟨b, 2, none⟩ = some (.int .i64 x0) := cell_at H.2.1 rfl
  have D3 : w.cell? ⟨b, 3, none⟩ = some (.int .i64 y0) := cell_at H.2.1 rfl
  have D4 : w.cell? ⟨b, 4, none⟩ = some (.int .i64 x1) := cell_at H.2.1 rfl
  have D5 : w.cell? ⟨b, 5, none⟩ = some (.int .i64 y1) := cell_at H.2.1 rfl
  have bl : b < w.heap.size := lt_of_block H.2.1
  clear H
  go_enter Tryz.func155, Tryz.ntmps155
  go_wp2
  exact bodyPost_ret (v := vR x0 y0 x1 y1) (by simp [results, Tryz.results155, go_sem]) rfl ⟨rfl, gb_alloc (gb_refl _ _) _⟩

set_option maxRecDepth 100000 in
set_option maxHeartbeats 2000000 in
theorem bnd_RGBA64 {T st : Nat} (w : World) (H : IMf w B T st x0 y0 x1 y1 n p A c b) :
    Calls Tryz.prog 165 #[.pointer (some ⟨b, 0, none⟩)] w fun e w' => e = .returned (vR x0 y0 x1 y1) ∧ w.grownBy w' none := by
  have D2 : w.cell? ⟨b, 2, none⟩ = some (.int .i64 x0) := cell_at H.2.1 rfl
  have D3 : w.cell? ⟨b, 3, none⟩ = some (.int .i64 y0) := cell_at H.2.1 rfl
  have D4 : w.cell? ⟨b, 4, none⟩ = some (.int .i64 x1) := cell_at H.2.1 rfl
  have D5 : w.cell? ⟨b, 5, none⟩ = some (.int .i64 y1) := cell_at H.2.1 rfl
  have bl : b < w.heap.size := lt_of_block H.2.1
  clear H
  go_enter Tryz.func165, Tryz.ntmps165
  go_wp2
  exact bodyPost_ret (v := vR x0 y0 x1 y1) (by simp [results, Tryz.results165, go_sem]) rfl ⟨rfl, gb_alloc (gb_refl _ _) _⟩

set_option maxRecDepth 100000 in
set_option maxHeartbeats 2000000 in
theorem bnd_CMYK {T st : Nat} (w : World) (H : IMf w B T st x0 y0 x1 y1 n p A c b) :
    Calls Tryz.prog 175 #[.pointer (some ⟨b, 0, none⟩)] w fun e w' => e = .returned (vR x0 y0 x1 y1) ∧ w.grownBy w' none := by
  have D2 : w.cell? ⟨b, 2, none⟩ = some (.int .i64 x0) := cell_at H.2.1 rfl
  have D3 : w.cell? ⟨b, 3, none⟩ = some (.int .i64 y0) := cell_at H.2.1 rfl
  have D4 : w.cell? ⟨b, 4, none⟩ = some (.int .i64 x1) := cell_at H.2.1 rfl
  have D5 : w.cell? ⟨b, 5, none⟩ = some (.int .i64 y1) := cell_at H.2.1 rfl
  have bl : b < w.heap.size := lt_of_block H.2.1
  clear H
  go_enter Tryz.func175, Tryz.ntmps175
  go_wp2
  exact bodyPost_ret (v := vR x0 y0 x1 y1) (by simp [results, Tryz.results175, go_sem]) rfl ⟨rfl, gb_alloc (gb_refl _ _) _⟩

theorem IM.bd (h : IM w B x0 y0 x1 y1 n p A c b k t) : Bd w t (.pointer (some ⟨b, 0, none⟩)) x0 y0 x1 y1 := by
  cases h
  case k6 h0 h1 h2 h3 e1 e2 e3 e4 =>
    subst e1 e2 e3 e4
    exact ⟨188, fun _ _ => by kernel_rfl, fun w' => m_Uniform_Bounds _ w', fun w' _ => bounds_Uniform _ w'⟩
  case k0 h => exact ⟨126, fun _ _ => by kernel_rfl, fun w' => m_RGBA_Bounds _ w', fun w' hg => bnd_RGBA w' (h.kept0 hg)⟩
  case k1 h => exact ⟨136, fun _ _ => by kernel_rfl, fun w' => m_NRGBA_Bounds _ w', fun w' hg => bnd_NRGBA w' (h.kept0 hg)⟩
  case k2 h => exact ⟨145, fun _ _ => by kernel_rfl, fun w' => m_Alpha_Bounds _ w', fun w' hg => bnd_Alpha w' (h.kept0 hg)⟩
  case k3 h => exact ⟨155, fun _ _ => by kernel_rfl, fun w' => m_Gray_Bounds _ w', fun w' hg => bnd_Gray w' (h.kept0 hg)⟩
  case k4 h => exact ⟨165, fun _ _ => by kernel_rfl, fun w' => m_RGBA64_Bounds _ w', fun w' hg => bnd_RGBA64 w' (h.kept0 hg)⟩
  case k5 h => exact ⟨175, fun _ _ => by kernel_rfl, fun w' => m_CMYK_Bounds _ w', fun w' hg => bnd_CMYK w' (h.kept0 hg)⟩
end

/-- the bytes of an image row by row, as pixels -/
def toP (wd k : Nat) (p : Nat → Int) : Nat → Nat → Nat → Int := fun r c ch => p (r * (wd * k) + c * k + ch)
/-- pixels as bytes, row by row -/
def unP (wd k : Nat) (P : Nat → Nat → Nat → Int) : Nat → Int := fun i => P (i / (wd * k)) (i % (wd * k) / k) (i % (wd * k) % k)
theorem un_lt {h wd k i : Nat} (hi : i < h * (wd * k)) : i / (wd * k) < h ∧ i % (wd * k) / k < wd ∧ i % (wd * k) % k < k := by
  have hm : 0 < wd * k := by
    rcases Nat.eq_zero_or_pos (wd * k) with e | e
    · rw [e, Nat.mul_zero] at hi; omega
    · exact e
  have hk : 0 < k := by
    rcases Nat.eq_zero_or_pos k with e | e
    · rw [e, Nat.mul_zero] at hm; omega
    · exact e
  refine ⟨?_, ?_, Nat.mod_lt _ hk⟩
  · rw [Nat.div_lt_iff_lt_mul hm]; exact hi
  · rw [Nat.div_lt_iff_lt_mul hk]; exact Nat.mod_lt _ hm
theorem un_eq (wd k i : Nat) : i / (wd * k) * (wd * k) + i % (wd * k) / k * k + i % (wd * k) % k = i := by
  have h1 := Nat.div_add_mod i (wd * k)
  have h2 := Nat.div_add_mod (i % (wd * k)) k
  rw [Nat.mul_comm] at h1 h2
  omega
theorem un_to (wd k : Nat) (p : Nat → Int) (i : Nat) : unP wd k (toP wd k p) i = p i := by
  unfold unP toP; rw [un_eq]
theorem by_toP {p : Nat → Int} (h : By p) (wd k r c : Nat) : By (toP wd k p r c) := fun ch => h _
/-- what an image reads as, through its kind -/
def srcP (k wd : Nat) (p : Nat → Int) : Nat → Nat → Nat → Int := if k = 6 then fun _ _ => p else toP wd (sz k) p

section
variable {w w' : World} {B n c b k : Nat} {T st : Nat} {x0 y0 x1 y1 : Int} {p : Nat → Int} {A : Option Addr} {t : TypeId}
theorem Own.pix {g h wd : Nat} (H : Own w B n p (some ⟨g, 0, none⟩) c) (hn : n = h * (wd * k)) : PixI w g h wd k (toP wd k p) := by
  rcases H with ⟨_, e, _⟩ | ⟨g', C, e, _, hb, _, _, hC⟩
  · cases e
  · injection e with e; injection e with e; subst e
    exact ⟨C, hb, fun r c ch hr hc hch => hC _ (by rw [hn]; exact pix_bound hr hc hch)⟩
theorem own_pix {g h wd : Nat} {P : Nat → Nat → Nat → Int} (H : PixI w g h wd k P) (hB : B ≤ g) (hn : n = h * (wd * k)) (h1 : n ≤ c) (h2 : c ≤ 9223372036854775807) : Own w B n (unP wd k P) (some ⟨g, 0, none⟩) c := by
  obtain ⟨C, hb, hC⟩ := H
  refine .inr ⟨g, C, rfl, hB, hb, h1, h2, fun i hi => ?_⟩
  obtain ⟨l1, l2, l3⟩ := un_lt (h := h) (wd := wd) (k := k) (i := i) (by omega)
  have := hC _ _ _ l1 l2 l3
  rw [un_eq] at this
  exact this
theorem Own.some (H : Own w B n p A c) (hn : 0 < n) : ∃ g, A = some ⟨g, 0, none⟩ ∧ B ≤ g ∧ g < w.heap.size := by
  rcases H with ⟨e, _⟩ | ⟨g', C, e, hB, hb, _⟩
  · omega
  · exact ⟨g', e, hB, lt_of_block hb⟩
/-- an image that has pixels -/
theorem IMf.pic {h wd g : Nat} (H : IMf w B T k x0 y0 x1 y1 n p (some ⟨g, 0, none⟩) c b) (hp : By p) (hx : x1 = x0 + wd) (hy : y1 = y0 + h) (hn : n = h * (wd * k)) (h1 : wd ≤ 128) (h2 : h ≤ 128)
    (v1 : -3000 ≤ x0) (v2 : x0 ≤ 3000) (v3 : -3000 ≤ y0) (v4 : y0 ≤ 3000) : Pic w b T g k h wd x0 y0 (toP wd k p) := by
  obtain ⟨hB, hb, ho, hne⟩ := H
  have hle := ho.le
  refine ⟨n, c, wd * k, ?_, ho.pix hn, hn, rfl, hle.1, hle.2, fun e => hne _ rfl e.symm, h1, h2, v1, v2, v3, v4, fun r c => by_toP hp _ _ _ _⟩
  rw [hb, hx, hy]
  have : ((k : Int) * (x0 + wd - x0)) = ((wd * k : Nat) : Int) := by rw [show x0 + (wd : Int) - x0 = wd by omega, Int.mul_comm]; push_cast; rfl
  rw [this]
end
end Go.Proofs.YtgjpohmjkhgpfaaGreat
