/- Images made of data: the pixels are copied, and an image of the kind lies in memory. The sides are within bounds. -/
import Derived.Test.YtgjpohmjkhgpfaaGreatK
set_option linter.unusedSimpArgs false
set_option linter.unusedVariables false
namespace Go.Proofs.YtgjpohmjkhgpfaaGreat
open Go.RowKit

/-- an image as data -/
abbrev vI (k x0 y0 x1 y1 : Int) (A : Option Addr) (n c : Nat) : Value := .agg #[.int .i64 k, .int .i64 x0, .int .i64 y0, .int .i64 x1, .int .i64 y1, .slice A n c]
def ImgOut (w : World) (k x0 y0 x1 y1 : Int) (n : Nat) (p : Nat → Int) (e : Ending) (w' : World) : Prop :=
  ∃ A' c', e = .returned (vI k x0 y0 x1 y1 A' n c') ∧ Own w' w.heap.size n p A' c' ∧ w.grownBy w' none

set_option maxRecDepth 100000 in
set_option maxHeartbeats 4000000 in
theorem image_c {k x0 y0 x1 y1 : Int} {A : Option Addr} {n c : Nat} {p : Nat → Int} (w : World) (h : Rd w A n p) (hn : n ≤ 2147483648) :
    Calls Tryz.prog 36 #[vI k x0 y0 x1 y1 A n c] w (ImgOut w k x0 y0 x1 y1 n p) := by
  have H := hid h
  clear h
  go_enter Tryz.func36, Tryz.ntmps36
  go_wp2_with (at_builtin
               refine wpList_copy rfl _ _ rfl rfl rfl A n c p rfl (H.out.kept0 (gb_alloc (gb_alloc (gb_refl _ _) _) _)) hn ?_
               intro A' c' w1 hown hg
               have Hown := hid hown
               have Hg := hid hg
               have hz := hg.size
               obtain ⟨cc, ff⟩ := gb_rules hg
               simp at hz
               have q5 : w1.cell? ⟨w.heap.size, 5, none⟩ = some (.slice A n c) := (cc _ _ (by simp; omega)).trans (by go_simp)
               clear hown hg)
  refine bodyPost_ret (v := vI k x0 y0 x1 y1 A' n c') (by simp [results, Tryz.results36, go_sem, cc, ff, q5]) rfl ⟨A', c', rfl, ?_, ?_⟩
  · have h := Hown.out
    simp at h
    exact ((((((((h.set (by simp <;> omega) _).set (by simp <;> omega) _).set (by simp <;> omega) _).set (by simp <;> omega) _).set (by simp <;> omega) _).set (by simp <;> omega) _).set (by simp <;> omega) _)).low (by omega)
  · exact gb_setCell (gb_setCell (gb_setCell (gb_setCell (gb_setCell (gb_setCell (gb_setCell (gb_trans (gb_alloc (gb_alloc (gb_refl _ _) _) _) Hg.out) (.inr (by simp <;> omega)) _) (.inr (by simp <;> omega)) _) (.inr (by simp <;> omega)) _) (.inr (by simp <;> omega)) _) (.inr (by simp <;> omega)) _) (.inr (by simp <;> omega)) _) (.inr (by simp <;> omega)) _

set_option maxRecDepth 100000 in
set_option maxHeartbeats 4000000 in
theorem zrect_c (r0 r1 r2 r3 : Int) (w : World) : Calls Tryz.prog 43 #[vR r0 r1 r2 r3] w fun e w' => e = .returned (vR r0 r1 r2 r3) ∧ w.grownBy w' none := by
  go_enter Tryz.func43, Tryz.ntmps43
  go_wp2
  exact bodyPost_ret (v := vR r0 r1 r2 r3) (by simp [results, Tryz.results43, go_sem]) rfl ⟨rfl, by (repeat (first | exact gb_refl _ _ | refine gb_alloc ?_ _ | refine gb_setCell ?_ (.inr (by simp <;> omega)) _))⟩

/-- an image that was made: block b its struct (of type T), its pixels in a row of its own -/
def Made (w : World) (TP T st : Nat) (x0 y0 x1 y1 : Int) (n : Nat) (p : Nat → Int) (e : Ending) (w' : World) : Prop :=
  ∃ b A' c', e = .returned (.iface TP (.pointer (some ⟨b, 0, none⟩))) ∧ w.heap.size ≤ b ∧
    w'.heap[b]? = some (.cells #[.slice A' n c', .int .i64 ((st : Int) * (x1 - x0)), .int .i64 x0, .int .i64 y0, .int .i64 x1, .int .i64 y1] T (0, 0)) ∧
    Own w' w.heap.size n p A' c' ∧ (∀ a, A' = some a → a.block ≠ b) ∧ w.grownBy w' none

set_option maxRecDepth 100000 in
set_option maxHeartbeats 4000000 in
theorem make_RGBA {x0 y0 x1 y1 : Int} {A : Option Addr} {n c : Nat} {p : Nat → Int} (w : World) (h : Rd w A n p) (hn : n ≤ 2147483648) (hx0 : sm x0) (hx1 : sm x1) :
    Calls Tryz.prog 41 #[vI 0 x0 y0 x1 y1 A n c] w (Made w 85 87 4 x0 y0 x1 y1 n p) := by
  have H := hid h
  clear h
  unfold sm at hx0 hx1
  go_enter Tryz.func41, Tryz.ntmps41
  go_wp2_with (at_builtin
               refine wpList_copy rfl _ _ rfl rfl rfl A n c p rfl (H.out.kept0 (by (repeat (first | exact gb_refl _ _ | refine gb_alloc ?_ _ | refine gb_setCell ?_ (.inr (by simp <;> omega)) _)))) hn ?_
               intro A' c' w1 hown hg
               have Hown := hid hown
               have Hg := hid hg
               have hz := hg.size
               obtain ⟨cc, ff⟩ := gb_rules hg
               simp at hz
               have z1 : w.heap.size < w1.heap.size := by omega
               have z2 : w.heap.size + 1 < w1.heap.size := by omega
               have q0 : w1.cell? ⟨w.heap.size, 0, none⟩ = some (.int .i64 0) := (cc _ _ (by simp; omega)).trans (by go_simp)
               have q1 : w1.cell? ⟨w.heap.size, 1, none⟩ = some (.int .i64 x0) := (cc _ _ (by simp; omega)).trans (by go_simp)
               have q3 : w1.cell? ⟨w.heap.size, 3, none⟩ = some (.int .i64 x1) := (cc _ _ (by simp; omega)).trans (by go_simp)
               have t0 : w1.cell? ⟨w.heap.size + 1, 0, none⟩ = some (.int .i64 x0) := (cc _ _ (by simp)).trans (by go_simp)
               have t1 : w1.cell? ⟨w.heap.size + 1, 1, none⟩ = some (.int .i64 y0) := (cc _ _ (by simp)).trans (by go_simp)
               have t2 : w1.cell? ⟨w.heap.size + 1, 2, none⟩ = some (.int .i64 x1) := (cc _ _ (by simp)).trans (by go_simp)
               have t3 : w1.cell? ⟨w.heap.size + 1, 3, none⟩ = some (.int .i64 y1) := (cc _ _ (by simp)).trans (by go_simp)
               clear hown hg cc ff hz)
  go_ret
  refine ⟨w1.heap.size + 1, A', c', rfl, by omega, ?_, ?_, ?_, ?_⟩
  · have := heap_alloc_new (w1.alloc (.cells #[.slice A' n c'] 22)) (.cells #[.slice A' n c', .int .i64 (4 * (x1 - x0)), .int .i64 x0, .int .i64 y0, .int .i64 x1, .int .i64 y1] 87)
    simpa using this
  · exact ((Hown.out.kept0 (gb_alloc (gb_alloc (gb_refl _ _) _) _))).low (by simp; omega)
  · intro a ha
    have := (Hown.out.lt a ha).1
    omega
  · exact gb_alloc (gb_alloc (gb_trans (gb_alloc (gb_alloc (gb_refl _ _) _) _) Hg.out) _) _

set_option maxRecDepth 100000 in
set_option maxHeartbeats 4000000 in
theorem make_NRGBA {x0 y0 x1 y1 : Int} {A : Option Addr} {n c : Nat} {p : Nat → Int} (w : World) (h : Rd w A n p) (hn : n ≤ 2147483648) (hx0 : sm x0) (hx1 : sm x1) :
    Calls Tryz.prog 41 #[vI 1 x0 y0 x1 y1 A n c] w (Made w 88 89 4 x0 y0 x1 y1 n p) := by
  have H := hid h
  clear h
  unfold sm at hx0 hx1
  go_enter Tryz.func41, Tryz.ntmps41
  go_wp2_with (at_builtin
               refine wpList_copy rfl _ _ rfl rfl rfl A n c p rfl (H.out.kept0 (by (repeat (first | exact gb_refl _ _ | refine gb_alloc ?_ _ | refine gb_setCell ?_ (.inr (by simp <;> omega)) _)))) hn ?_
               intro A' c' w1 hown hg
               have Hown := hid hown
               have Hg := hid hg
               have hz := hg.size
               obtain ⟨cc, ff⟩ := gb_rules hg
               simp at hz
               have z1 : w.heap.size < w1.heap.size := by omega
               have z2 : w.heap.size + 1 < w1.heap.size := by omega
               have q0 : w1.cell? ⟨w.heap.size, 0, none⟩ = some (.int .i64 1) := (cc _ _ (by simp; omega)).trans (by go_simp)
               have q1 : w1.cell? ⟨w.heap.size, 1, none⟩ = some (.int .i64 x0) := (cc _ _ (by simp; omega)).trans (by go_simp)
               have q3 : w1.cell? ⟨w.heap.size, 3, none⟩ = some (.int .i64 x1) := (cc _ _ (by simp; omega)).trans (by go_simp)
               have t0 : w1.cell? ⟨w.heap.size + 1, 0, none⟩ = some (.int .i64 x0) := (cc _ _ (by simp)).trans (by go_simp)
               have t1 : w1.cell? ⟨w.heap.size + 1, 1, none⟩ = some (.int .i64 y0) := (cc _ _ (by simp)).trans (by go_simp)
               have t2 : w1.cell? ⟨w.heap.size + 1, 2, none⟩ = some (.int .i64 x1) := (cc _ _ (by simp)).trans (by go_simp)
               have t3 : w1.cell? ⟨w.heap.size + 1, 3, none⟩ = some (.int .i64 y1) := (cc _ _ (by simp)).trans (by go_simp)
               clear hown hg cc ff hz)
  go_ret
  refine ⟨w1.heap.size + 1, A', c', rfl, by omega, ?_, ?_, ?_, ?_⟩
  · have := heap_alloc_new (w1.alloc (.cells #[.slice A' n c'] 22)) (.cells #[.slice A' n c', .int .i64 (4 * (x1 - x0)), .int .i64 x0, .int .i64 y0, .int .i64 x1, .int .i64 y1] 89)
    simpa using this
  · exact ((Hown.out.kept0 (gb_alloc (gb_alloc (gb_refl _ _) _) _))).low (by simp; omega)
  · intro a ha
    have := (Hown.out.lt a ha).1
    omega
  · exact gb_alloc (gb_alloc (gb_trans (gb_alloc (gb_alloc (gb_refl _ _) _) _) Hg.out) _) _

set_option maxRecDepth 100000 in
set_option maxHeartbeats 4000000 in
theorem make_Alpha {x0 y0 x1 y1 : Int} {A : Option Addr} {n c : Nat} {p : Nat → Int} (w : World) (h : Rd w A n p) (hn : n ≤ 2147483648) (hx0 : sm x0) (hx1 : sm x1) :
    Calls Tryz.prog 41 #[vI 2 x0 y0 x1 y1 A n c] w (Made w 90 91 1 x0 y0 x1 y1 n p) := by
  have H := hid h
  clear h
  unfold sm at hx0 hx1
  go_enter Tryz.func41, Tryz.ntmps41
  go_wp2_with (at_builtin
               refine wpList_copy rfl _ _ rfl rfl rfl A n c p rfl (H.out.kept0 (by (repeat (first | exact gb_refl _ _ | refine gb_alloc ?_ _ | refine gb_setCell ?_ (.inr (by simp <;> omega)) _)))) hn ?_
               intro A' c' w1 hown hg
               have Hown := hid hown
               have Hg := hid hg
               have hz := hg.size
               obtain ⟨cc, ff⟩ := gb_rules hg
               simp at hz
               have z1 : w.heap.size < w1.heap.size := by omega
               have z2 : w.heap.size + 1 < w1.heap.size := by omega
               have q0 : w1.cell? ⟨w.heap.size, 0, none⟩ = some (.int .i64 2) := (cc _ _ (by simp; omega)).trans (by go_simp)
               have q1 : w1.cell? ⟨w.heap.size, 1, none⟩ = some (.int .i64 x0) := (cc _ _ (by simp; omega)).trans (by go_simp)
               have q3 : w1.cell? ⟨w.heap.size, 3, none⟩ = some (.int .i64 x1) := (cc _ _ (by simp; omega)).trans (by go_simp)
               have t0 : w1.cell? ⟨w.heap.size + 1, 0, none⟩ = some (.int .i64 x0) := (cc _ _ (by simp)).trans (by go_simp)
               have t1 : w1.cell? ⟨w.heap.size + 1, 1, none⟩ = some (.int .i64 y0) := (cc _ _ (by simp)).trans (by go_simp)
               have t2 : w1.cell? ⟨w.heap.size + 1, 2, none⟩ = some (.int .i64 x1) := (cc _ _ (by simp)).trans (by go_simp)
               have t3 : w1.cell? ⟨w.heap.size + 1, 3, none⟩ = some (.int .i64 y1) := (cc _ _ (by simp)).trans (by go_simp)
               clear hown hg cc ff hz)
  go_ret
  refine ⟨w1.heap.size + 1, A', c', rfl, by omega, ?_, ?_, ?_, ?_⟩
  · have := heap_alloc_new (w1.alloc (.cells #[.slice A' n c'] 22)) (.cells #[.slice A' n c', .int .i64 (x1 - x0), .int .i64 x0, .int .i64 y0, .int .i64 x1, .int .i64 y1] 91)
    simpa using this
  · exact ((Hown.out.kept0 (gb_alloc (gb_alloc (gb_refl _ _) _) _))).low (by simp; omega)
  · intro a ha
    have := (Hown.out.lt a ha).1
    omega
  · exact gb_alloc (gb_alloc (gb_trans (gb_alloc (gb_alloc (gb_refl _ _) _) _) Hg.out) _) _

set_option maxRecDepth 100000 in
set_option maxHeartbeats 4000000 in
theorem make_Gray {x0 y0 x1 y1 : Int} {A : Option Addr} {n c : Nat} {p : Nat → Int} (w : World) (h : Rd w A n p) (hn : n ≤ 2147483648) (hx0 : sm x0) (hx1 : sm x1) :
    Calls Tryz.prog 41 #[vI 3 x0 y0 x1 y1 A n c] w (Made w 92 93 1 x0 y0 x1 y1 n p) := by
  have H := hid h
  clear h
  unfold sm at hx0 hx1
  go_enter Tryz.func41, Tryz.ntmps41
  go_wp2_with (at_builtin
               refine wpList_copy rfl _ _ rfl rfl rfl A n c p rfl (H.out.kept0 (by (repeat (first | exact gb_refl _ _ | refine gb_alloc ?_ _ | refine gb_setCell ?_ (.inr (by simp <;> omega)) _)))) hn ?_
               intro A' c' w1 hown hg
               have Hown := hid hown
               have Hg := hid hg
               have hz := hg.size
               obtain ⟨cc, ff⟩ := gb_rules hg
               simp at hz
               have z1 : w.heap.size < w1.heap.size := by omega
               have z2 : w.heap.size + 1 < w1.heap.size := by omega
               have q0 : w1.cell? ⟨w.heap.size, 0, none⟩ = some (.int .i64 3) := (cc _ _ (by simp; omega)).trans (by go_simp)
               have q1 : w1.cell? ⟨w.heap.size, 1, none⟩ = some (.int .i64 x0) := (cc _ _ (by simp; omega)).trans (by go_simp)
               have q3 : w1.cell? ⟨w.heap.size, 3, none⟩ = some (.int .i64 x1) := (cc _ _ (by simp; omega)).trans (by go_simp)
               have t0 : w1.cell? ⟨w.heap.size + 1, 0, none⟩ = some (.int .i64 x0) := (cc _ _ (by simp)).trans (by go_simp)
               have t1 : w1.cell? ⟨w.heap.size + 1, 1, none⟩ = some (.int .i64 y0) := (cc _ _ (by simp)).trans (by go_simp)
               have t2 : w1.cell? ⟨w.heap.size + 1, 2, none⟩ = some (.int .i64 x1) := (cc _ _ (by simp)).trans (by go_simp)
               have t3 : w1.cell? ⟨w.heap.size + 1, 3, none⟩ = some (.int .i64 y1) := (cc _ _ (by simp)).trans (by go_simp)
               clear hown hg cc ff hz)
  go_ret
  refine ⟨w1.heap.size + 1, A', c', rfl, by omega, ?_, ?_, ?_, ?_⟩
  · have := heap_alloc_new (w1.alloc (.cells #[.slice A' n c'] 22)) (.cells #[.slice A' n c', .int .i64 (x1 - x0), .int .i64 x0, .int .i64 y0, .int .i64 x1, .int .i64 y1] 93)
    simpa using this
  · exact ((Hown.out.kept0 (gb_alloc (gb_alloc (gb_refl _ _) _) _))).low (by simp; omega)
  · intro a ha
    have := (Hown.out.lt a ha).1
    omega
  · exact gb_alloc (gb_alloc (gb_trans (gb_alloc (gb_alloc (gb_refl _ _) _) _) Hg.out) _) _

set_option maxRecDepth 100000 in
set_option maxHeartbeats 4000000 in
theorem make_RGBA64 {x0 y0 x1 y1 : Int} {A : Option Addr} {n c : Nat} {p : Nat → Int} (w : World) (h : Rd w A n p) (hn : n ≤ 2147483648) (hx0 : sm x0) (hx1 : sm x1) :
    Calls Tryz.prog 41 #[vI 4 x0 y0 x1 y1 A n c] w (Made w 94 95 8 x0 y0 x1 y1 n p) := by
  have H := hid h
  clear h
  unfold sm at hx0 hx1
  go_enter Tryz.func41, Tryz.ntmps41
  go_wp2_with (at_builtin
               refine wpList_copy rfl _ _ rfl rfl rfl A n c p rfl (H.out.kept0 (by (repeat (first | exact gb_refl _ _ | refine gb_alloc ?_ _ | refine gb_setCell ?_ (.inr (by simp <;> omega)) _)))) hn ?_
               intro A' c' w1 hown hg
               have Hown := hid hown
               have Hg := hid hg
               have hz := hg.size
               obtain ⟨cc, ff⟩ := gb_rules hg
               simp at hz
               have z1 : w.heap.size < w1.heap.size := by omega
               have z2 : w.heap.size + 1 < w1.heap.size := by omega
               have q0 : w1.cell? ⟨w.heap.size, 0, none⟩ = some (.int .i64 4) := (cc _ _ (by simp; omega)).trans (by go_simp)
               have q1 : w1.cell? ⟨w.heap.size, 1, none⟩ = some (.int .i64 x0) := (cc _ _ (by simp; omega)).trans (by go_simp)
               have q3 : w1.cell? ⟨w.heap.size, 3, none⟩ = some (.int .i64 x1) := (cc _ _ (by simp; omega)).trans (by go_simp)
               have t0 : w1.cell? ⟨w.heap.size + 1, 0, none⟩ = some (.int .i64 x0) := (cc _ _ (by simp)).trans (by go_simp)
               have t1 : w1.cell? ⟨w.heap.size + 1, 1, none⟩ = some (.int .i64 y0) := (cc _ _ (by simp)).trans (by go_simp)
               have t2 : w1.cell? ⟨w.heap.size + 1, 2, none⟩ = some (.int .i64 x1) := (cc _ _ (by simp)).trans (by go_simp)
               have t3 : w1.cell? ⟨w.heap.size + 1, 3, none⟩ = some (.int .i64 y1) := (cc _ _ (by simp)).trans (by go_simp)
               clear hown hg cc ff hz)
  go_ret
  refine ⟨w1.heap.size + 1, A', c', rfl, by omega, ?_, ?_, ?_, ?_⟩
  · have := heap_alloc_new (w1.alloc (.cells #[.slice A' n c'] 22)) (.cells #[.slice A' n c', .int .i64 (8 * (x1 - x0)), .int .i64 x0, .int .i64 y0, .int .i64 x1, .int .i64 y1] 95)
    simpa using this
  · exact ((Hown.out.kept0 (gb_alloc (gb_alloc (gb_refl _ _) _) _))).low (by simp; omega)
  · intro a ha
    have := (Hown.out.lt a ha).1
    omega
  · exact gb_alloc (gb_alloc (gb_trans (gb_alloc (gb_alloc (gb_refl _ _) _) _) Hg.out) _) _

set_option maxRecDepth 100000 in
set_option maxHeartbeats 4000000 in
theorem make_CMYK {x0 y0 x1 y1 : Int} {A : Option Addr} {n c : Nat} {p : Nat → Int} (w : World) (h : Rd w A n p) (hn : n ≤ 2147483648) (hx0 : sm x0) (hx1 : sm x1) :
    Calls Tryz.prog 41 #[vI 5 x0 y0 x1 y1 A n c] w (Made w 96 97 4 x0 y0 x1 y1 n p) := by
  have H := hid h
  clear h
  unfold sm at hx0 hx1
  go_enter Tryz.func41, Tryz.ntmps41
  go_wp2_with (at_builtin
               refine wpList_copy rfl _ _ rfl rfl rfl A n c p rfl (H.out.kept0 (by (repeat (first | exact gb_refl _ _ | refine gb_alloc ?_ _ | refine gb_setCell ?_ (.inr (by simp <;> omega)) _)))) hn ?_
               intro A' c' w1 hown hg
               have Hown := hid hown
               have Hg := hid hg
               have hz := hg.size
               obtain ⟨cc, ff⟩ := gb_rules hg
               simp at hz
               have z1 : w.heap.size < w1.heap.size := by omega
               have z2 : w.heap.size + 1 < w1.heap.size := by omega
               have q0 : w1.cell? ⟨w.heap.size, 0, none⟩ = some (.int .i64 5) := (cc _ _ (by simp; omega)).trans (by go_simp)
               have q1 : w1.cell? ⟨w.heap.size, 1, none⟩ = some (.int .i64 x0) := (cc _ _ (by simp; omega)).trans (by go_simp)
               have q3 : w1.cell? ⟨w.heap.size, 3, none⟩ = some (.int .i64 x1) := (cc _ _ (by simp; omega)).trans (by go_simp)
               have t0 : w1.cell? ⟨w.heap.size + 1, 0, none⟩ = some (.int .i64 x0) := (cc _ _ (by simp)).trans (by go_simp)
               have t1 : w1.cell? ⟨w.heap.size + 1, 1, none⟩ = some (.int .i64 y0) := (cc _ _ (by simp)).trans (by go_simp)
               have t2 : w1.cell? ⟨w.heap.size + 1, 2, none⟩ = some (.int .i64 x1) := (cc _ _ (by simp)).trans (by go_simp)
               have t3 : w1.cell? ⟨w.heap.size + 1, 3, none⟩ = some (.int .i64 y1) := (cc _ _ (by simp)).trans (by go_simp)
               clear hown hg cc ff hz)
  go_ret
  refine ⟨w1.heap.size + 1, A', c', rfl, by omega, ?_, ?_, ?_, ?_⟩
  · have := heap_alloc_new (w1.alloc (.cells #[.slice A' n c'] 22)) (.cells #[.slice A' n c', .int .i64 (4 * (x1 - x0)), .int .i64 x0, .int .i64 y0, .int .i64 x1, .int .i64 y1] 97)
    simpa using this
  · exact ((Hown.out.kept0 (gb_alloc (gb_alloc (gb_refl _ _) _) _))).low (by simp; omega)
  · intro a ha
    have := (Hown.out.lt a ha).1
    omega
  · exact gb_alloc (gb_alloc (gb_trans (gb_alloc (gb_alloc (gb_refl _ _) _) _) Hg.out) _) _
end Go.Proofs.YtgjpohmjkhgpfaaGreat
