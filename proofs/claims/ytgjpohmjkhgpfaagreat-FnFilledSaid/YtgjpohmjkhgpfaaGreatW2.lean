/- Colors: what the colors' method RGBA returns. -/
import Derived.Test.YtgjpohmjkhgpfaaGreatW3
import Derived.Laws.BitsAllLaws
set_option linter.unusedSimpArgs false
set_option linter.unusedVariables false
namespace Go.Proofs.YtgjpohmjkhgpfaaGreat
open Go.RowKit

theorem nat_or257 (n : Nat) (h : n < 256) : n ||| (n * 256) = n * 257 := by
  rw [Nat.or_comm, nat_join 8 (n * 256) n (by omega) (by omega)]; omega
theorem or257 {r : Int} (h : 0 ≤ r ∧ r ≤ 255) : bits .or .u32 r (r * 256) = r * 257 := by
  rw [u32_or _ _ (by omega) (by omega) (by omega) (by omega)]
  obtain ⟨n, rfl⟩ := Int.eq_ofNat_of_zero_le h.1
  rw [show ((n : Int) * 256).toNat = n * 256 by omega, Int.toNat_natCast, nat_or257 n (by omega)]; omega
theorem or257' {r : Int} (h : 0 ≤ r ∧ r ≤ 255) : bits .or .u16 (r * 256) r = r * 257 := by
  rw [u16_or _ _ (by omega) (by omega) (by omega) (by omega)]
  obtain ⟨n, rfl⟩ := Int.eq_ofNat_of_zero_le h.1
  rw [show ((n : Int) * 256).toNat = n * 256 by omega, Int.toNat_natCast, Nat.or_comm, nat_or257 n (by omega)]; omega
theorem or16 {r s : Int} (h : 0 ≤ r ∧ r ≤ 255) (h' : 0 ≤ s ∧ s ≤ 255) : bits .or .u16 (r * 256) s = r * 256 + s := by
  rw [u16_or _ _ (by omega) (by omega) (by omega) (by omega)]
  obtain ⟨n, rfl⟩ := Int.eq_ofNat_of_zero_le h.1
  obtain ⟨m, rfl⟩ := Int.eq_ofNat_of_zero_le h'.1
  rw [show ((n : Int) * 256).toNat = n * 256 by omega, Int.toNat_natCast, nat_join 8 (n * 256) m (by omega) (by omega)]; omega
theorem or64 {r s : Int} (h : 0 ≤ r ∧ r ≤ 255) (h' : 0 ≤ s ∧ s ≤ 255) : bits .or .i64 (r * 256) s = r * 256 + s := by
  obtain ⟨n, rfl⟩ := Int.eq_ofNat_of_zero_le h.1
  obtain ⟨m, rfl⟩ := Int.eq_ofNat_of_zero_le h'.1
  have e1 : (BitVec.ofInt 64 ((n : Int) * 256)).toNat = n * 256 := by
    rw [show (n : Int) * 256 = ((n * 256 : Nat) : Int) by omega, BitVec.ofInt_natCast, BitVec.toNat_ofNat]; exact Nat.mod_eq_of_lt (by omega)
  have e2 : (BitVec.ofInt 64 (m : Int)).toNat = m := by
    rw [BitVec.ofInt_natCast, BitVec.toNat_ofNat]; exact Nat.mod_eq_of_lt (by omega)
  show IntKind.i64.wrap ((BitVec.ofInt 64 ((n : Int) * 256) ||| BitVec.ofInt 64 (m : Int)).toNat : Int) = _
  rw [BitVec.toNat_or, e1, e2, nat_join 8 (n * 256) m (by omega) (by omega), IntKind.wrap_i64]
  omega
theorem prod3 {r a : Int} (hr : 0 ≤ r ∧ r ≤ 255) (ha : 0 ≤ a ∧ a ≤ 255) : 0 ≤ r * 257 * a ∧ r * 257 * a ≤ 16711425 := by
  have e : r * 257 * a = 257 * (r * a) := by rw [Int.mul_comm r 257, Int.mul_assoc]
  rw [e]
  have hp : 0 ≤ r * a := Int.mul_nonneg hr.1 ha.1
  have hq : r * a ≤ 255 * 255 := Int.mul_le_mul hr.2 ha.2 ha.1 (by omega)
  omega

theorem or257u {r : Int} (h : 0 ≤ r ∧ r ≤ 255) : bits .or .u16 r (r * 256) = r * 257 := by
  rw [u16_or _ _ (by omega) (by omega) (by omega) (by omega)]
  obtain ⟨n, rfl⟩ := Int.eq_ofNat_of_zero_le h.1
  rw [show ((n : Int) * 256).toNat = n * 256 by omega, Int.toNat_natCast, nat_or257 n (by omega)]; omega
theorem ret4 {fn : Func} {t u v x : Tmp} (h : fn.results = #[.tmp t, .tmp u, .tmp v, .tmp x]) (tmps : Array Value) (P : Program) (w : World) :
    (results fn tmps).run P w = .ok (.tuple #[tmps.getD t undef, tmps.getD u undef, tmps.getD v undef, tmps.getD x undef]) w := by simp [results, h]
theorem ret3 {fn : Func} {t u v : Tmp} (h : fn.results = #[.tmp t, .tmp u, .tmp v]) (tmps : Array Value) (P : Program) (w : World) :
    (results fn tmps).run P w = .ok (.tuple #[tmps.getD t undef, tmps.getD u undef, tmps.getD v undef]) w := by simp [results, h]
/-- four numbers of 32 bits, as RGBA returns them -/
abbrev v4 (f : Nat → Int) : Value := .tuple #[.int .u32 (f 0), .int .u32 (f 1), .int .u32 (f 2), .int .u32 (f 3)]
abbrev b4 (p : Nat → Int) : Value := .agg #[.int .u8 (p 0), .int .u8 (p 1), .int .u8 (p 2), .int .u8 (p 3)]
abbrev c64 (f : Nat → Int) : Value := .agg #[.int .u16 (f 0), .int .u16 (f 1), .int .u16 (f 2), .int .u16 (f 3)]

set_option maxHeartbeats 2000000 in
theorem nrgba_RGBA_c (p : Nat → Int) (w : World) (hp : By p) :
    Calls Tryz.prog 89 #[b4 p] w fun e w' => e = .returned (v4 (cl 1 p)) ∧ w.grownBy w' none := by
  have o1 := or257 (hp 0); have o2 := or257 (hp 1); have o3 := or257 (hp 2); have o4 := or257 (hp 3)
  have p1 := prod3 (hp 0) (hp 3); have p2 := prod3 (hp 1) (hp 3); have p3 := prod3 (hp 2) (hp 3)
  have h0 := hp 0; have h1 := hp 1; have h2 := hp 2; have h3 := hp 3
  have Hp := hid hp
  clear hp
  go_enter Tryz.func89, Tryz.ntmps89
  go_wp2
  refine bodyPost_ret (ret4 rfl _ _ _) rfl ?_
  exact ⟨rfl, gb_alloc (gb_refl _ _) _⟩

set_option maxHeartbeats 2000000 in
theorem rgba_RGBA_c (p : Nat → Int) (w : World) (hp : By p) :
    Calls Tryz.prog 86 #[b4 p] w fun e w' => e = .returned (v4 (cl 0 p)) ∧ w.grownBy w' none := by
  have o1 := or257 (hp 0); have o2 := or257 (hp 1); have o3 := or257 (hp 2); have o4 := or257 (hp 3)
  have h0 := hp 0; have h1 := hp 1; have h2 := hp 2; have h3 := hp 3
  have Hp := hid hp
  clear hp
  go_enter Tryz.func86, Tryz.ntmps86
  go_wp2
  refine bodyPost_ret (ret4 rfl _ _ _) rfl ?_
  exact ⟨rfl, gb_alloc (gb_refl _ _) _⟩

set_option maxHeartbeats 2000000 in
theorem alpha_RGBA_c (p : Nat → Int) (w : World) (hp : By p) :
    Calls Tryz.prog 222 #[.agg #[.int .u8 (p 0)]] w fun e w' => e = .returned (v4 (cl 2 p)) ∧ w.grownBy w' none := by
  have o1 := or257 (hp 0)
  have h0 := hp 0
  have Hp := hid hp
  clear hp
  go_enter Tryz.func222, Tryz.ntmps222
  go_wp2
  refine bodyPost_ret (ret4 rfl _ _ _) rfl ?_
  exact ⟨rfl, gb_alloc (gb_refl _ _) _⟩

set_option maxHeartbeats 2000000 in
theorem gray_RGBA_c (p : Nat → Int) (w : World) (hp : By p) :
    Calls Tryz.prog 223 #[.agg #[.int .u8 (p 0)]] w fun e w' => e = .returned (v4 (cl 3 p)) ∧ w.grownBy w' none := by
  have o1 := or257 (hp 0)
  have h0 := hp 0
  have Hp := hid hp
  clear hp
  go_enter Tryz.func223, Tryz.ntmps223
  go_wp2
  refine bodyPost_ret (ret4 rfl _ _ _) rfl ?_
  exact ⟨rfl, gb_alloc (gb_refl _ _) _⟩

set_option maxHeartbeats 2000000 in
theorem alpha16_RGBA_c (a : Int) (w : World) (hp : 0 ≤ a ∧ a ≤ 65535) :
    Calls Tryz.prog 218 #[.agg #[.int .u16 a]] w fun e w' => e = .returned (v4 fun _ => a) ∧ w.grownBy w' none := by
  go_enter Tryz.func218, Tryz.ntmps218
  go_wp2
  refine bodyPost_ret (ret4 rfl _ _ _) rfl ?_
  exact ⟨rfl, gb_alloc (gb_refl _ _) _⟩

set_option maxHeartbeats 2000000 in
theorem rgba64_RGBA_c (f : Nat → Int) (w : World) (hp : ∀ i, 0 ≤ f i ∧ f i ≤ 65535) :
    Calls Tryz.prog 193 #[c64 f] w fun e w' => e = .returned (v4 f) ∧ w.grownBy w' none := by
  have h0 := hp 0; have h1 := hp 1; have h2 := hp 2; have h3 := hp 3
  have Hp := hid hp
  clear hp
  go_enter Tryz.func193, Tryz.ntmps193
  go_wp2
  go_quiet (fail)
  go_wp2
  refine bodyPost_ret (ret4 rfl _ _ _) rfl ?_
  exact ⟨rfl, gb_drewN (gb_alloc (gb_refl _ _) _) _⟩

theorem cmy {c k : Int} (hc : 0 ≤ c ∧ c ≤ 255) (hk : 0 ≤ k ∧ k ≤ 255) : 0 ≤ (65535 - c * 257) * (65535 - k * 257) ∧ (65535 - c * 257) * (65535 - k * 257) ≤ 4294836225 := by
  have hp : 0 ≤ (65535 - c * 257) * (65535 - k * 257) := Int.mul_nonneg (by omega) (by omega)
  have hq : (65535 - c * 257) * (65535 - k * 257) ≤ 65535 * 65535 := Int.mul_le_mul (by omega) (by omega) (by omega) (by omega)
  exact ⟨hp, hq⟩

set_option maxHeartbeats 2000000 in
theorem cmyk_RGBA_c (p : Nat → Int) (w : World) (hp : By p) :
    Calls Tryz.prog 182 #[b4 p] w fun e w' => e = .returned (v4 (cl 5 p)) ∧ w.grownBy w' none := by
  have p1 := cmy (hp 0) (hp 3); have p2 := cmy (hp 1) (hp 3); have p3 := cmy (hp 2) (hp 3)
  have h0 := hp 0; have h1 := hp 1; have h2 := hp 2; have h3 := hp 3
  have Hp := hid hp
  clear hp
  go_enter Tryz.func182, Tryz.ntmps182
  go_wp2
  refine bodyPost_ret (ret4 rfl _ _ _) rfl ?_
  exact ⟨rfl, gb_alloc (gb_refl _ _) _⟩

set_option maxHeartbeats 2000000 in
theorem toRGB_c (p : Nat → Int) (w : World) (hp : By p) :
    Calls Tryz.prog 78 #[.int .u8 (p 0), .int .u8 (p 1), .int .u8 (p 2), .int .u8 (p 3)] w fun e w' =>
      e = .returned (.tuple #[.int .u8 (cl 5 p 0 / 256), .int .u8 (cl 5 p 1 / 256), .int .u8 (cl 5 p 2 / 256)]) ∧ w = w' := by
  have p1 := cmy (hp 0) (hp 3); have p2 := cmy (hp 1) (hp 3); have p3 := cmy (hp 2) (hp 3)
  have h0 := hp 0; have h1 := hp 1; have h2 := hp 2; have h3 := hp 3
  have Hp := hid hp
  clear hp
  go_enter Tryz.func78, Tryz.ntmps78
  go_wp2
  refine bodyPost_ret (ret3 rfl _ _ _) rfl ?_
  exact ⟨rfl, rfl⟩

set_option maxRecDepth 100000 in
set_option maxHeartbeats 2000000 in
theorem uni_RGBA_c (f : Nat → Int) (b : Nat) (w : World) (hp : ∀ i, 0 ≤ f i ∧ f i ≤ 65535) (hc : w.cell? ⟨b, 0, none⟩ = some (.iface 103 (c64 f))) :
    Calls Tryz.prog 50 #[.pointer (some ⟨b, 0, none⟩)] w fun e w' => e = .returned (v4 f) ∧ w.grownBy w' none := by
  go_enter Tryz.func50, Tryz.ntmps50
  have Hp := hid hp
  clear hp
  go_wp2_with (go_at_call 193; refine (rgba64_RGBA_c f _ Hp.out).mono ?_; rintro e w' ⟨rfl, hg⟩)
  refine bodyPost_ret (ret4 rfl _ _ _) rfl ?_
  exact ⟨rfl, hg⟩
end Go.Proofs.YtgjpohmjkhgpfaaGreat
