/- The builtin copy, between rows of pixels: what the pixels are behind it. No condition. -/
import Derived.Test.YtgjpohmjkhgpfaaGreatB
import Derived.Laws.CopyOwn
set_option linter.unusedSimpArgs false
set_option linter.unusedVariables false
namespace Go.Proofs.YtgjpohmjkhgpfaaGreat
open Go.RowKit

theorem next_row {ro q st : Nat} (h : ro = q * st) : ro + st = (q + 1) * st := by rw [h, Nat.add_mul, Nat.one_mul]
/-- n bytes of a slice, as cells -/
def bytesOf (V : Nat → Int) (n : Nat) : List Value := (List.range n).map fun j => .int .u8 (V j)
theorem bytesOf_length (V : Nat → Int) (n : Nat) : (bytesOf V n).length = n := by simp [bytesOf]
theorem bytesOf_get {V : Nat → Int} {n j : Nat} (h : j < n) : (bytesOf V n)[j]? = some (.int .u8 (V j)) := by simp [bytesOf, h]
theorem bytesOf_some {V : Nat → Int} {n j : Nat} {v : Value} (h : (bytesOf V n)[j]? = some v) : j < n ∧ v = .int .u8 (V j) := by
  have hj : j < n := by
    rcases Nat.lt_or_ge j n with h' | h'
    · exact h'
    · rw [List.getElem?_eq_none (by rw [bytesOf_length]; exact h')] at h; cases h
  rw [bytesOf_get hj] at h
  exact ⟨hj, by injection h with h; exact h.symm⟩

section
variable {w : World} {b h wd k : Nat} {F P : Nat → Nat → Nat → Int} {dn dn' : Nat → Nat → Prop}

theorem row_get {C : Array Value} {off i : Nat} {cs : List Value} (hfit : off + cs.length ≤ C.size) :
    (C.toList.take off ++ (cs ++ C.toList.drop (off + cs.length))).toArray[i]? = if off ≤ i ∧ i < off + cs.length then cs[i - off]? else C[i]? := by
  rw [List.getElem?_toArray]
  by_cases h1 : i < off
  · rw [List.getElem?_append_left (by simp; omega), if_neg (by omega), List.getElem?_take, if_pos h1]; simp
  · rw [List.getElem?_append_right (by simp; omega)]
    have e : (C.toList.take off).length = off := by simp; omega
    rw [e]
    by_cases h2 : i < off + cs.length
    · rw [if_pos ⟨by omega, h2⟩, List.getElem?_append_left (by omega)]
    · rw [if_neg (by omega), List.getElem?_append_right (by omega), List.getElem?_drop, show off + cs.length + (i - off - cs.length) = i by omega]; simp

theorem gb_setRow {a : World} {g : Nat} (h : a.grownBy w (some g)) (cs : Array Value) : a.grownBy (w.setRow g cs) (some g) :=
  ⟨h.os, h.tape, h.output, by simpa [World.setRow] using h.size, fun i hi hne => (setRow_other w g i cs (fun e => hne (by rw [e]))).trans (h.block i hi hne)⟩

/-- copy: n pixels of row r from column c0 on -/
theorem copy_pix {R : Program} {w0 : World} (dT sT ty elem : TypeId) (hu : R.underlying dT = some (.slice elem)) (hsz : (R.info? elem).map (·.size) = some 1)
    (r c0 n off dLen dCap ps soff sLen sCap : Nat)
    (H : PixI w b h wd k (pt dn F P)) (hr : r < h) (hc : c0 + n ≤ wd) (hn : 0 < n) (hk : 0 < k) (hoff : off = r * (wd * k) + c0 * k) (hl1 : sLen = n * k) (hl2 : dLen = n * k)
    (hsrc : ∀ c ch, c < n → ch < k → w.cell? ⟨ps, soff + (c * k + ch), none⟩ = some (.int .u8 (F r (c0 + c) ch)))
    (hdn : ∀ r' c', dn' r' c' ↔ (dn r' c' ∨ (r' = r ∧ c0 ≤ c' ∧ c' < c0 + n)))
    (hgb : w0.grownBy w (some b)) :
    ∃ w', (Builtin.copy_ #[dT, sT] ty #[.slice (some ⟨b, off, none⟩) dLen dCap, .slice (some ⟨ps, soff, none⟩) sLen sCap]).run R w = .ok (goInt (n * k : Nat)) w' ∧ w0.grownBy w' (some b) ∧ PixI w' b h wd k (pt dn' F P) ∧ (∀ q o, q ≠ b → w'.cell? ⟨q, o, none⟩ = w.cell? ⟨q, o, none⟩) := by
  obtain ⟨C, hC, hg⟩ := H
  have hsz' : off + n * k ≤ C.size := by
    have h1 := hg r (c0 + n - 1) (k - 1) hr (by omega) (by omega)
    have h2 : r * (wd * k) + (c0 + n - 1) * k + (k - 1) < C.size := by
      rcases Nat.lt_or_ge (r * (wd * k) + (c0 + n - 1) * k + (k - 1)) C.size with h' | h'
      · exact h'
      · rw [Array.getElem?_eq_none h'] at h1; cases h1
    have h3 : c0 * k + n * k = (c0 + n - 1) * k + k := by rw [← Nat.add_mul]; conv => { rhs; rhs; rw [← Nat.one_mul k] }; rw [← Nat.add_mul]; congr 1; omega
    omega
  obtain ⟨V, hV⟩ : ∃ V : Nat → Int, V = fun j => F r (c0 + j / k) (j % k) := ⟨_, rfl⟩
  have dm : ∀ j, j < n * k → j / k < n ∧ j % k < k ∧ j / k * k + j % k = j := fun j hj =>
    ⟨Nat.div_lt_of_lt_mul (by rw [Nat.mul_comm]; exact hj), Nat.mod_lt _ hk, by rw [Nat.mul_comm]; exact Nat.div_add_mod j k⟩
  have hlen := bytesOf_length V (n * k)
  have hrun := run_copy_row (P := R) w dT sT ty elem b off dLen dCap ⟨ps, soff, none⟩ sLen sCap C _ (bytesOf V (n * k)) hu hsz hC (by rw [hlen, hl1, hl2]; exact (Nat.min_self _).symm) ?_ (by rw [hlen]; exact hsz') ?_
  rotate_left
  · intro j v hj
    obtain ⟨hj', rfl⟩ := bytesOf_some hj
    obtain ⟨q1, q2, q3⟩ := dm j hj'
    have := hsrc (j / k) (j % k) q1 q2
    rw [q3] at this
    have ea : (⟨ps, soff, none⟩ : Addr).add j = ⟨ps, soff + j, none⟩ := by unfold Addr.add; split <;> simp_all
    rw [hV, ea]; exact this
  · intro v hv
    simp only [bytesOf, List.mem_map] at hv
    obtain ⟨j, _, rfl⟩ := hv
    rfl
  · rw [List.append_assoc] at hrun
    refine ⟨_, by rw [hrun, hlen], gb_setRow hgb _, ⟨_, setRow_heap w b _ _ _ _ hC, fun r' c' ch' hr' hc' hch' => ?_⟩, fun q o hq => World.cell?_of_block (setRow_other w b q _ hq)⟩
    have hrg := row_get (C := C) (off := off) (i := r' * (wd * k) + c' * k + ch') (cs := bytesOf V (n * k)) (by rw [hlen]; exact hsz')
    rw [hlen] at hrg
    rw [hrg]
    by_cases e : r' = r ∧ c0 ≤ c' ∧ c' < c0 + n
    · obtain ⟨rfl, e1, e2⟩ := e
      have e3 : c' * k = c0 * k + (c' - c0) * k := by rw [← Nat.add_mul]; congr 1; omega
      have e4 : (c' - c0) * k + ch' < n * k := by
        have := Nat.mul_le_mul_right k (show c' - c0 + 1 ≤ n by omega)
        rw [Nat.add_mul, Nat.one_mul] at this; omega
      rw [if_pos (by omega), show r' * (wd * k) + c' * k + ch' - off = (c' - c0) * k + ch' by omega, bytesOf_get e4, hV]
      dsimp only
      rw [pt_pos ((hdn _ _).2 (.inr ⟨rfl, e1, e2⟩)), Nat.mul_comm (c' - c0) k, Nat.mul_add_div hk, Nat.div_eq_of_lt hch', Nat.mul_add_mod, Nat.mod_eq_of_lt hch', show c0 + (c' - c0 + 0) = c' by omega]
    · have hd' : dn' r' c' ↔ dn r' c' := by rw [hdn]; exact ⟨fun h => h.resolve_right e, .inl⟩
      rw [pt_iff hd', if_neg, hg r' c' ch' hr' hc' hch']
      intro hin
      apply e
      -- the cell lies in row r, between the columns
      have e5 : r' * (wd * k) + c' * k + ch' - off < n * k := by omega
      obtain ⟨q1, q2, q3⟩ := dm _ e5
      have e6 : r' * (wd * k) + c' * k + ch' = r * (wd * k) + (c0 + (r' * (wd * k) + c' * k + ch' - off) / k) * k + (r' * (wd * k) + c' * k + ch' - off) % k := by
        rw [Nat.add_mul]; omega
      obtain ⟨g1, g2, -⟩ := pix_inj hc' hch' (Nat.lt_of_lt_of_le (Nat.add_lt_add_left q1 _) hc) q2 e6
      exact ⟨g1, by rw [g2]; exact Nat.le_add_right _ _, by rw [g2]; exact Nat.add_lt_add_left q1 _⟩
/-- the source, which may be the image itself -/
def Alias (w : World) (pd ps dh dw sh sw k : Nat) (D S : Nat → Nat → Nat → Int) : Prop :=
  PixI w ps sh sw k S ∧ (ps ≠ pd ∨ (ps = pd ∧ sh = dh ∧ sw = dw ∧ S = D))
theorem src_cell {w0 w : World} {pd ps dh dw sh sw k : Nat} {F D S : Nat → Nat → Nat → Int} {dn : Nat → Nat → Prop} (hal : Alias w0 pd ps dh dw sh sw k D S) (hgb : w0.grownBy w (some pd))
    (H : PixI w pd dh dw k (pt dn F D)) {r c ch i : Nat} (hr : r < sh) (hc : c < sw) (hch : ch < k) (hnd : ps = pd → ¬ dn r c) (hi : i = r * (sw * k) + c * k + ch) : w.cell? ⟨ps, i, none⟩ = some (.int .u8 (S r c ch)) := by
  obtain ⟨hp, h | ⟨rfl, rfl, rfl, rfl⟩⟩ := hal
  · exact (hp.kept (gb_block hgb hp.lt h)).cell hr hc hch hi
  · rw [H.cell hr hc hch hi, pt_neg (hnd rfl)]
end
end Go.Proofs.YtgjpohmjkhgpfaaGreat
