/- The reference's Valid. No condition. -/
import Derived.Test.YtgjpohmjkhgpfaaGreatLV
import Derived.Test.YtgjpohmjkhgpfaaGreatLE
set_option linter.unusedSimpArgs false
set_option linter.unusedVariables false
namespace Go.Proofs.YtgjpohmjkhgpfaaGreat
open Go.RowKit

set_option maxRecDepth 100000 in
set_option maxHeartbeats 2000000 in
theorem size_c (k : Nat) (hk : k < 7) (w : World) : Calls Tryz.prog 27 #[.int .i64 k] w fun e w' => e = .returned (.int .i64 (sz k)) ∧ w = w' := by
  have hk' : k = 0 ∨ k = 1 ∨ k = 2 ∨ k = 3 ∨ k = 4 ∨ k = 5 ∨ k = 6 := by omega
  rcases hk' with rfl | rfl | rfl | rfl | rfl | rfl | rfl
  all_goals
    go_enter Tryz.func27, Tryz.ntmps27
    go_wp2
    go_ret
    exact ⟨rfl, rfl⟩
/-- what Valid says of an image's colors -/
def MulK (k : Nat) (n : Nat) (p : Nat → Int) : Prop := (k = 0 → Mul0 p (n / 4)) ∧ (k = 4 → Mul8 p (n / 8))
theorem multk_c {k : Nat} {x0 y0 x1 y1 : Int} {A : Option Addr} {n c : Nat} {p : Nat → Int} (w : World) (hk : k < 6) (h : Rd w A n p) (hp : By p) (hn : n ≤ 2147483647) (hc : n ≤ c) (hc2 : c ≤ 9223372036854775807) :
    Calls Tryz.prog 30 #[vI k x0 y0 x1 y1 A n c] w (BoolOut w (MulK k n p)) := by
  by_cases h0 : k = 0
  · subst h0
    refine (mult0_c w h hp hn hc hc2).mono ?_
    rintro e w' ⟨b, he, hb, hg⟩
    exact ⟨b, he, fun h => ⟨fun _ => hb h, fun e => absurd e (by decide)⟩, hg⟩
  by_cases h4 : k = 4
  · subst h4
    refine (mult8_c w (.inl rfl) h hp hn hc hc2).mono ?_
    rintro e w' ⟨b, he, hb, hg⟩
    exact ⟨b, he, fun h => ⟨fun e => absurd e (by decide), fun _ => hb h⟩, hg⟩
  refine (mult1_c w (by omega) (by omega) (by omega)).mono ?_
  rintro e w' ⟨b, he, hb, hg⟩
  exact ⟨b, he, fun h => ⟨fun e => absurd e h0, fun e => absurd e h4⟩, hg⟩
/-- what Valid says -/
def VK (k : Nat) (x0 y0 x1 y1 : Int) (n : Nat) (p : Nat → Int) : Prop :=
  (k < 6 ∧ VF (sz k) (MulK k n p) x0 y0 x1 y1 n) ∨ (k = 6 ∧ n = 8 ∧ Mul8 p 1)
theorem sz_le (k : Nat) : sz k ≤ 8 := by unfold sz; split <;> omega
set_option maxRecDepth 100000 in
set_option maxHeartbeats 4000000 in
theorem valid_c {k x0 y0 x1 y1 : Int} {A : Option Addr} {n c : Nat} {p : Nat → Int} (w : World) (h : Rd w A n p) (hp : By p) (hn : n ≤ 2147483647) (hc : n ≤ c) (hc2 : c ≤ 9223372036854775807) :
    Calls Tryz.prog 16 #[vI k x0 y0 x1 y1 A n c, .int .i64 64] w (BoolOut w (∃ kk : Nat, k = kk ∧ VK kk x0 y0 x1 y1 n p)) := by
  by_cases h0 : k < 0
  · go_enter Tryz.func16, Tryz.ntmps16
    go_wp2
    go_ret
    exact ⟨false, rfl, fun h => Bool.noConfusion h, gb_alloc (gb_refl _ _) _⟩
  by_cases h7 : 7 ≤ k
  · go_enter Tryz.func16, Tryz.ntmps16
    go_wp2
    go_ret
    exact ⟨false, rfl, fun h => Bool.noConfusion h, gb_alloc (gb_refl _ _) _⟩
  obtain ⟨kk, rfl⟩ := Int.eq_ofNat_of_zero_le (show 0 ≤ k by omega)
  by_cases h6 : kk < 6
  · refine (valid_of (P := MulK kk n p) (s := sz kk) w (by omega) (by omega) (sz_le kk) hn (size_c kk (by omega)) (fun w' hg => multk_c w' h6 (h.kept0 hg) hp hn hc hc2)).mono ?_
    rintro e w' ⟨b, he, hb, hg⟩
    exact ⟨b, he, fun h => ⟨kk, rfl, .inl ⟨h6, hb h⟩⟩, hg⟩
  · obtain rfl : kk = 6 := by omega
    clear h0 h7 h6
    have hs : ∀ w, Calls Tryz.prog 27 #[.int .i64 6] w fun e w' => e = .returned (.int .i64 8) ∧ w = w' := size_c 6 (by omega)
    have H := hid h
    clear h
    by_cases h8 : n = 8
    · subst h8
      go_enter Tryz.func16, Tryz.ntmps16
      go_wp2_with fail
      refine (hs _).mono ?_
      rintro e w1 ⟨rfl, rfl⟩
      go_wp2_with fail
      refine (mult8_c _ (.inr rfl) (H.out.kept0 (gb_alloc (gb_refl _ _) _)) hp hn hc hc2).mono ?_
      rintro e w1 ⟨b, rfl, hb, hg⟩
      have HB := hid hb
      have HG := hid (gb_trans (gb_alloc (gb_refl w none) _) hg)
      clear hb hg
      go_wp2
      go_ret
      exact ⟨b, rfl, fun h => ⟨6, rfl, .inr ⟨rfl, rfl, HB.out h⟩⟩, HG.out⟩
    · have hb : ((n : Int) == 8) = false := by rw [beq_eq_false_iff_ne]; omega
      go_enter Tryz.func16, Tryz.ntmps16
      go_wp2_with fail
      refine (hs _).mono ?_
      rintro e w1 ⟨rfl, rfl⟩
      go_wp2
      go_ret
      exact ⟨false, rfl, fun h => Bool.noConfusion h, gb_alloc (gb_refl _ _) _⟩
end Go.Proofs.YtgjpohmjkhgpfaaGreat
