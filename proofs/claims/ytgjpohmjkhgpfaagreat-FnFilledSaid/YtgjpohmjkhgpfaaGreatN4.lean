/- DrawMask without a mask, from RGBA onto RGBA, at images that were made of data. -/
import Derived.Test.YtgjpohmjkhgpfaaGreatN3
import Derived.Test.YtgjpohmjkhgpfaaGreatX1
import Derived.Test.YtgjpohmjkhgpfaaGreatX4
set_option linter.unusedSimpArgs false
set_option linter.unusedVariables false
namespace Go.Proofs.YtgjpohmjkhgpfaaGreat
open Go.RowKit

theorem px_copy {d s : Nat → Int} (hs : By s) : px0 0 0 1 d s = s := by
  funext ch
  have := hs ch
  show s ch * 257 / 256 = s ch
  omega
theorem pm_toP {k wd : Nat} {p : Nat → Int} (h : ∀ j, Pm k (fun ch => p (j * sz k + ch))) (r c : Nat) : Pm k (toP wd (sz k) p r c) := by
  have := h (r * wd + c)
  unfold toP
  have e : ∀ ch, r * (wd * sz k) + c * sz k + ch = (r * wd + c) * sz k + ch := fun ch => by rw [Nat.add_mul, Nat.mul_assoc]
  simp only [e]
  exact this
/-- two images that were made one after the other -/
def Apart (A : Option Addr) (b' : Nat) (A' : Option Addr) : Prop := ∀ a, A = some a → a.block ≠ b' ∧ ∀ a', A' = some a' → a'.block ≠ a.block

theorem mdm_0_0 {w : World} {B n c b dh dw B' n' c' b' sh sw op : Nat} {dx0 dy0 dx1 dy1 sx0 sy0 sx1 sy1 x0 y0 x1 y1 px py : Int} {p s : Nat → Int} {A A' : Option Addr} {td ts : TypeId} (hop : op ≤ 1)
    (Hd : IM w B dx0 dy0 dx1 dy1 n p A c b 0 td) (Hs : IM w B' sx0 sy0 sx1 sy1 n' s A' c' b' 0 ts) (GD : Geo 0 dx0 dy0 dx1 dy1 n dh dw) (GS : Geo 0 sx0 sy0 sx1 sy1 n' sh sw) (hp : By p) (hs : By s)
    (hpm : ∀ j, Pm 0 (fun ch => s (j * sz 0 + ch))) (hap : Apart A b' A')
    (m1 : sm x0) (m2 : sm y0) (m3 : sm px) (m4 : sm py) (m5 : sm (x0 - px)) (m6 : sm (y0 - py)) :
    Calls Tryz.prog 42 #[.iface td (.pointer (some ⟨b, 0, none⟩)), vR x0 y0 x1 y1, .iface ts (.pointer (some ⟨b', 0, none⟩)), vP px py, .nilIface, vP 0 0, .int .i64 op] w
      (DMout w B n c A (resB 0 dw (In0 x0 y0 x1 y1 px py dx0 dy0 sx0 sy0 sh sw) (fun r c => px0 0 0 op (toP dw (sz 0) p r c) (srcAt 0 sw s x0 y0 px py dx0 dy0 sx0 sy0 r c)) p)) := by
  refine mdm0_of (by omega) Hd Hs GD GS hp hs m1 m2 m3 m4 m5 m6 ?_
  intro rx ry xe ye ax ay b0 b1 b2 b3 p0 p1 q0 q1 g hA S1 S2 hC hR hP
  have hap' := hap _ hA
  rcases GS with ⟨h6, _⟩ | ⟨-, e1, e2, hn', l1, l2, v1, v2, v3, v4⟩
  · cases h6
  cases S1
  case k0 S1 =>
  cases S2
  case k0 S2 =>
  have hA' : ∃ g', A' = some ⟨g', 0, none⟩ := by
    have hR' := hR
    obtain ⟨-, -, -, -, r1, r2, r3, r4⟩ := hR'
    have hP' := hP
    obtain ⟨-, -, r5, r6⟩ := hP'
    obtain ⟨g', e, _⟩ := Hs.dst (by omega) (by rw [hn']; exact Nat.mul_pos (by omega) (Nat.mul_pos (by omega) (sz_pos 0)))
    exact ⟨g', e⟩
  obtain ⟨g', rfl⟩ := hA'
  have n1 : b' ≠ g := fun e => hap'.1 e.symm
  have n2 : pbk 0 (some ⟨g', 0, none⟩) b' ≠ g := hap'.2 _ rfl
  have hop' : op = 0 ∨ op = 1 := by omega
  rcases hop' with rfl | rfl
  · exact dm_0_0_0 w S1 S2 ⟨n1, .inl n2⟩ (fun r c => pm_toP hpm r c) hC hR hP
  · have e : (fun r c => px0 0 0 1 (toP dw (sz 0) p r c) (srcP 0 sw s (ay + (r - ry)) (ax + (c - rx)))) = (fun r c => srcP 0 sw s (ay + (r - ry)) (ax + (c - rx))) := by
      funext r c; exact px_copy (by_toP hs _ _ _ _)
    rw [e]
    exact dm_0_0_1 w S1 S2 n1 (fun w' hg => ⟨by obtain ⟨_, _, _, _, h, _⟩ := S2.kept0 hg; exact h, .inl n2⟩) (fun e => absurd e n2) hC hR hP
end Go.Proofs.YtgjpohmjkhgpfaaGreat
