/- A pixel's four bytes as a string, and a pixel of the drawn image. -/
import Derived.Test.YtgjpohmjkhgpfaaGreatN6
import Derived.Test.YtgjpohmjkhgpfaaGreatLD
import Derived.Laws.BytesArg
set_option linter.unusedSimpArgs false
set_option linter.unusedVariables false
namespace Go.Proofs.YtgjpohmjkhgpfaaGreat
open Go.RowKit

theorem conv4 {w : World} {A : Addr} {v0 v1 v2 v3 : Int} (c : Nat) (h0 : w.cell? (A.add 0) = some (.int .u8 v0)) (h1 : w.cell? (A.add 1) = some (.int .u8 v1)) (h2 : w.cell? (A.add 2) = some (.int .u8 v2)) (h3 : w.cell? (A.add 3) = some (.int .u8 v3)) :
    (convert 22 9 (.slice (some A) 4 c)).run Tryz.prog w = .ok (.string (strOfNums [v0, v1, v2, v3])) w := by
  have hl := run_loadCells_list (P := Tryz.prog) w A [.int .u8 v0, .int .u8 v1, .int .u8 v2, .int .u8 v3] (fun j v hj => by
    have hj4 : j < 4 := by
      rcases Nat.lt_or_ge j 4 with h | h
      · exact h
      · rw [List.getElem?_eq_none (by simpa using h)] at hj; cases hj
    have : j = 0 ∨ j = 1 ∨ j = 2 ∨ j = 3 := by omega
    rcases this with rfl | rfl | rfl | rfl
    · injection hj with hj; subst hj; exact h0
    · injection hj with hj; subst hj; exact h1
    · injection hj with hj; subst hj; exact h2
    · injection hj with hj; subst hj; exact h3)
  rw [run_convert_bytes_string w 22 9 5 _ 4 c Tryz.underlying22 (by kernel_rfl) (by kernel_rfl), run_bytesToString w _ 4 c [v0, v1, v2, v3] hl]
  rfl
theorem conv4n {w : World} {A : Addr} {v0 v1 v2 v3 : Int} (c : Nat) (h0 : w.cell? (A.add 0) = some (.int .u8 v0)) (h1 : w.cell? (A.add 1) = some (.int .u8 v1)) (h2 : w.cell? (A.add 2) = some (.int .u8 v2)) (h3 : w.cell? (A.add 3) = some (.int .u8 v3)) (k : Nat) :
    (convert 22 9 (.slice (some A) 4 c)).run Tryz.prog (w.drewN k) = .ok (.string (strOfNums [v0, v1, v2, v3])) (w.drewN k) :=
  conv4 c (by rw [World.cell?_drewN]; exact h0) (by rw [World.cell?_drewN]; exact h1) (by rw [World.cell?_drewN]; exact h2) (by rw [World.cell?_drewN]; exact h3)
theorem px_opaque {o : Nat} {d s : Nat → Int} (ho : o ≤ 1) (hd : By d) (hs : By s) (h : o = 0 → s 3 = 255) (ch : Nat) : px0 0 0 o d s ch = s ch := by
  have h1 := hs ch
  have h2 := hd ch
  have ho' : o = 0 ∨ o = 1 := by omega
  rcases ho' with rfl | rfl
  · show (d ch * 257 * (65535 - s 3 * 257) / 65535 + s ch * 257) / 256 = s ch
    rw [h rfl]
    have : (65535 - 255 * 257 : Int) = 0 := by decide
    rw [this, Int.mul_zero]
    omega
  · show s ch * 257 / 256 = s ch
    omega
theorem res_at {dw r c ch : Nat} {I : Nat → Nat → Prop} {F : Nat → Nat → Nat → Int} {p : Nat → Int} (hc : c < dw) (hch : ch < 4) (hI : I r c) : resB 0 dw I F p (4 * (r * dw + c) + ch) = F r c ch := by
  have h0 : 4 * (r * dw + c) + ch = r * (dw * 4) + (c * 4 + ch) := by rw [← Nat.mul_assoc]; omega
  have hm : c * 4 + ch < dw * 4 := by omega
  have e1 : (4 * (r * dw + c) + ch) / (dw * 4) = r := by rw [h0, Nat.mul_comm r, Nat.mul_add_div (by omega), Nat.div_eq_of_lt hm, Nat.add_zero]
  have e2 : (4 * (r * dw + c) + ch) % (dw * 4) = c * 4 + ch := by rw [h0, Nat.mul_comm r, Nat.mul_add_mod, Nat.mod_eq_of_lt hm]
  show unP dw 4 _ _ = _
  unfold unP
  rw [e1, e2]
  have e3 : (c * 4 + ch) / 4 = c := by omega
  have e4 : (c * 4 + ch) % 4 = ch := by omega
  rw [e3, e4, pt_pos hI]
theorem own_at {w : World} {B n c : Nat} {p : Nat → Int} {A : Option Addr} (h : Own w B n p A c) (hn : 0 < n) : ∃ g, A = some ⟨g, 0, none⟩ ∧ n ≤ c ∧ c ≤ 9223372036854775807 ∧ ∀ i, i < n → w.cell? ⟨g, i, none⟩ = some (.int .u8 (p i)) := by
  obtain ⟨a, e, _, hc⟩ := h.rd hn
  rcases h with ⟨h0, _⟩ | ⟨g, C, rfl, _, _, h1, h2, _⟩
  · omega
  · injection e with e; subst e
    refine ⟨g, rfl, h1, h2, fun i hi => ?_⟩
    have := hc i hi
    have e : (⟨g, 0, none⟩ : Addr).add i = ⟨g, i, none⟩ := by unfold Addr.add; by_cases h : i = 0 <;> simp [h]
    rwa [e] at this
/-- four bytes of the drawn image and four bytes of the source are the same string -/
theorem same4 {o dw sw r c sr sc : Nat} {q0 q1 px py Xd0 Yd0 X0 Y0 : Int} {I : Nat → Nat → Prop} {p s : Nat → Int} (ho : o ≤ 1) (hp : By p) (hs : By s) (hc : c < dw) (hI : I r c) (h : o = 0 → s (4 * (sr * sw + sc) + 3) = 255)
    (t1 : (sr : Int) = Yd0 + r + (py - q1) - Y0) (t2 : (sc : Int) = Xd0 + c + (px - q0) - X0) {ch : Nat} (hch : ch < 4) :
    resB 0 dw I (fun r c => px0 0 0 o (toP dw (sz 0) p r c) (srcAt 0 sw s q0 q1 px py Xd0 Yd0 X0 Y0 r c)) p (4 * (r * dw + c) + ch) = s (4 * (sr * sw + sc) + ch) := by
  rw [res_at hc hch hI]
  have e : srcAt 0 sw s q0 q1 px py Xd0 Yd0 X0 Y0 r c = toP sw 4 s sr sc := by
    unfold srcAt
    rw [← t1, ← t2]
    rfl
  have e2 : ∀ k, toP sw 4 s sr sc k = s (4 * (sr * sw + sc) + k) := by
    intro k
    unfold toP
    congr 1
    rw [← Nat.mul_assoc]
    omega
  show px0 0 0 o (toP dw (sz 0) p r c) (srcAt 0 sw s q0 q1 px py Xd0 Yd0 X0 Y0 r c) ch = _
  rw [e, px_opaque ho (by_toP hp _ _ _ _) (by_toP hs _ _ _ _) (by rw [e2]; exact h), e2]
end Go.Proofs.YtgjpohmjkhgpfaaGreat
