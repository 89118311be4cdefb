/- The colors of an image's pixels and their composition, as numbers: what one byte of a drawn pixel is. No condition. -/
set_option linter.unusedSimpArgs false
set_option linter.unusedVariables false
namespace Go.Proofs.YtgjpohmjkhgpfaaGreat
/-- the color of a pixel of kind k whose bytes are p: red, green, blue, alpha (0 .. 3), 0 to 65535 -/
def cl (k : Nat) (p : Nat → Int) (ch : Nat) : Int :=
  match k with
  | 0 => p ch * 257
  | 1 => if ch = 3 then p 3 * 257 else p ch * 257 * p 3 / 255
  | 2 => p 0 * 257
  | 3 => if ch = 3 then 65535 else p 0 * 257
  | 5 => if ch = 3 then 65535 else (65535 - p ch * 257) * (65535 - p 3 * 257) / 65535
  | _ => p (2 * ch) * 256 + p (2 * ch + 1)
/-- composed, without a mask (op 0: over; else: in its place) -/
def mix0 (op : Nat) (d s sa : Int) : Int := if op = 0 then d * (65535 - sa) / 65535 + s else s
/-- composed, with a mask's alpha -/
def mixM (op : Nat) (d s sa ma : Int) : Int := if op = 0 then (d * (65535 - sa * ma / 65535) + s * ma) / 65535 else s * ma / 65535
/-- a color as the bytes of a pixel of kind k (0, 4 or 2) -/
def en (k : Nat) (v : Nat → Int) (ch : Nat) : Int :=
  match k with
  | 0 => v ch / 256
  | 2 => v 3 / 256
  | _ => if ch % 2 = 0 then v (ch / 2) / 256 else v (ch / 2) % 256
/-- a drawn pixel -/
def px0 (dk sk op : Nat) (d s : Nat → Int) : Nat → Int := en dk fun i => mix0 op (cl dk d i) (cl sk s i) (cl sk s 3)
def pxM (dk sk mk op : Nat) (d s m : Nat → Int) : Nat → Int := en dk fun i => mixM op (cl dk d i) (cl sk s i) (cl sk s 3) (cl mk m 3)
/-- bytes a pixel -/
def sz (k : Nat) : Nat := match k with | 2 => 1 | 3 => 1 | 4 => 8 | 6 => 8 | _ => 4
/-- bytes -/
def By (p : Nat → Int) : Prop := ∀ i, 0 ≤ p i ∧ p i ≤ 255
/-- no color is above alpha -/
def Pm (k : Nat) (p : Nat → Int) : Prop := ∀ i, i < 3 → cl k p i ≤ cl k p 3

theorem cl_range {k : Nat} {p : Nat → Int} (h : By p) (ch : Nat) : 0 ≤ cl k p ch ∧ cl k p ch ≤ 65535 := by
  have h0 := h ch; have h1 := h 0; have h3 := h 3; have h4 := h (2 * ch); have h5 := h (2 * ch + 1)
  unfold cl
  split
  · omega
  · split
    · omega
    · have e : p ch * 257 * p 3 = 257 * (p ch * p 3) := by rw [Int.mul_comm (p ch) 257, Int.mul_assoc]
      rw [e]
      have hp : 0 ≤ p ch * p 3 := Int.mul_nonneg h0.1 h3.1
      have hq : p ch * p 3 ≤ 255 * 255 := Int.mul_le_mul h0.2 h3.2 h3.1 (by omega)
      omega
  · omega
  · split <;> omega
  · split
    · omega
    · have hp : 0 ≤ (65535 - p ch * 257) * (65535 - p 3 * 257) := Int.mul_nonneg (by omega) (by omega)
      have hq : (65535 - p ch * 257) * (65535 - p 3 * 257) ≤ 65535 * 65535 := Int.mul_le_mul (by omega) (by omega) (by omega) (by omega)
      omega
  · omega

theorem cl0 (p : Nat → Int) (ch : Nat) : cl 0 p ch = p ch * 257 := rfl
theorem cl1 (p : Nat → Int) (ch : Nat) : cl 1 p ch = if ch = 3 then p 3 * 257 else p ch * 257 * p 3 / 255 := rfl
theorem cl2 (p : Nat → Int) (ch : Nat) : cl 2 p ch = p 0 * 257 := rfl
theorem cl3 (p : Nat → Int) (ch : Nat) : cl 3 p ch = if ch = 3 then 65535 else p 0 * 257 := rfl
theorem cl4 (p : Nat → Int) (ch : Nat) : cl 4 p ch = p (2 * ch) * 256 + p (2 * ch + 1) := rfl
theorem cl5 (p : Nat → Int) (ch : Nat) : cl 5 p ch = if ch = 3 then 65535 else (65535 - p ch * 257) * (65535 - p 3 * 257) / 65535 := rfl
theorem cl6 (p : Nat → Int) (ch : Nat) : cl 6 p ch = p (2 * ch) * 256 + p (2 * ch + 1) := rfl
theorem en0 (v : Nat → Int) (ch : Nat) : en 0 v ch = v ch / 256 := rfl
theorem en2 (v : Nat → Int) (ch : Nat) : en 2 v ch = v 3 / 256 := rfl
theorem en4 (v : Nat → Int) (ch : Nat) : en 4 v ch = if ch % 2 = 0 then v (ch / 2) / 256 else v (ch / 2) % 256 := rfl

/-- kinds whose colors are below alpha by their making -/
theorem Pm_of {k : Nat} {p : Nat → Int} (h : By p) (hk : k = 1 ∨ k = 2 ∨ k = 3 ∨ k = 5) : Pm k p := by
  intro i hi
  have h0 := h i; have h3 := h 3; have hz := h 0
  rcases hk with rfl | rfl | rfl | rfl
  · rw [cl1, cl1, if_neg (by omega), if_pos rfl]
    have e : p i * 257 * p 3 = 257 * (p i * p 3) := by rw [Int.mul_comm (p i) 257, Int.mul_assoc]
    rw [e]
    have hq : p i * p 3 ≤ 255 * p 3 := Int.mul_le_mul_of_nonneg_right h0.2 h3.1
    omega
  · rw [cl2, cl2]; omega
  · rw [cl3, cl3, if_neg (by omega), if_pos rfl]; omega
  · rw [cl5, cl5, if_neg (by omega), if_pos rfl]
    have hq : (65535 - p i * 257) * (65535 - p 3 * 257) ≤ 65535 * 65535 := Int.mul_le_mul (by omega) (by omega) (by omega) (by omega)
    omega

/-- a product of a color and the rest of an alpha -/
theorem rest_le {d x : Int} (h0 : 0 ≤ d) (h1 : d ≤ 65535) (hx0 : 0 ≤ x) : 0 ≤ d * x ∧ d * x ≤ 65535 * x :=
  ⟨Int.mul_nonneg h0 hx0, Int.mul_le_mul_of_nonneg_right h1 hx0⟩
/-- of a color of 8 bits -/
theorem rest8_le {d x : Int} (h0 : 0 ≤ d) (h1 : d ≤ 255) (hx0 : 0 ≤ x) : 0 ≤ d * (x * 257) ∧ d * (x * 257) ≤ 65535 * x := by
  have e : d * (x * 257) = 257 * (d * x) := by rw [← Int.mul_assoc, Int.mul_comm]
  have hp : 0 ≤ d * x := Int.mul_nonneg h0 hx0
  have hq : d * x ≤ 255 * x := Int.mul_le_mul_of_nonneg_right h1 hx0
  omega
theorem rest8_eq (d x : Int) : d * (x * 257) = d * 257 * x := by
  rw [Int.mul_comm x 257, Int.mul_assoc]
theorem prod_le {s m a : Int} (hm : 0 ≤ m) (h : s ≤ a) : s * m ≤ a * m := Int.mul_le_mul_of_nonneg_right h hm
theorem nmul (a b : Int) : a * (b * 257) = a * 257 * b := by rw [← Int.mul_assoc, Int.mul_assoc, Int.mul_comm b 257, ← Int.mul_assoc]
theorem mix0_full (op : Nat) (d s : Int) : mix0 op d s 65535 = s := by
  unfold mix0; split
  · rw [show (65535 : Int) - 65535 = 0 from rfl, Int.mul_zero]; omega
  · rfl
theorem dv256 {c : Int} (h : 0 ≤ c ∧ c ≤ 65535) : 0 ≤ c / 256 ∧ c / 256 ≤ 255 := by omega
end Go.Proofs.YtgjpohmjkhgpfaaGreat
