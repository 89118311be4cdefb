/- A slice of bytes that reads as a function, nil let in; append onto nil copies it. No condition. -/
import Derived.Test.YtgjpohmjkhgpfaaGreatS
import Derived.Maps.AppendAt
set_option linter.unusedSimpArgs false
set_option linter.unusedVariables false
namespace Go.Proofs.YtgjpohmjkhgpfaaGreat
open Go.RowKit

/-- the slice at A holds n bytes: byte i is p i -/
def Rd (w : World) (A : Option Addr) (n : Nat) (p : Nat → Int) : Prop :=
  0 < n → ∃ a : Addr, A = some a ∧ a.block < w.heap.size ∧ ∀ i, i < n → w.cell? (a.add i) = some (.int .u8 (p i))
/-- the bytes as values -/
def bys (n : Nat) (p : Nat → Int) : List Value := (List.range n).map fun i => Value.int .u8 (p i)
theorem bys_len (n : Nat) (p : Nat → Int) : (bys n p).length = n := by simp [bys]
theorem bys_at {n i : Nat} (p : Nat → Int) (h : i < n) : (bys n p)[i]? = some (.int .u8 (p i)) := by simp [bys, h]
theorem bys_one {n : Nat} {p : Nat → Int} : ∀ u ∈ bys n p, u.oneCell' = true := by
  intro u hu
  obtain ⟨i, _, rfl⟩ := List.mem_map.1 hu
  rfl
theorem add_block (a : Addr) (i : Nat) : (a.add i).block = a.block := by unfold Addr.add; split <;> rfl

section
variable {w w' : World} {A : Option Addr} {n : Nat} {p : Nat → Int}
theorem Rd.kept0 (h : Rd w A n p) (hg : w.grownBy w' none) : Rd w' A n p := by
  intro hn
  obtain ⟨a, e, hb, hc⟩ := h hn
  exact ⟨a, e, Nat.lt_of_lt_of_le hb hg.size, fun i hi => (gb_cell0 hg (p := a.add i) (by rw [add_block]; exact hb)).trans (hc i hi)⟩
theorem Rd.kept (h : Rd w A n p) {g : Nat} (hg : w.grownBy w' (some g)) (hne : ∀ a, A = some a → a.block ≠ g) : Rd w' A n p := by
  intro hn
  obtain ⟨a, e, hb, hc⟩ := h hn
  exact ⟨a, e, Nat.lt_of_lt_of_le hb hg.size, fun i hi => (gb_cell hg (p := a.add i) (by rw [add_block]; exact hb) (by rw [add_block]; exact hne a e)).trans (hc i hi)⟩
theorem Rd.nil (w : World) (p : Nat → Int) (A : Option Addr) : Rd w A 0 p := fun h => absurd h (by omega)
theorem Rd.congr (h : Rd w A n p) {q : Nat → Int} (e : ∀ i, i < n → p i = q i) : Rd w A n q := by
  intro hn
  obtain ⟨a, e', hb, hc⟩ := h hn
  exact ⟨a, e', hb, fun i hi => by rw [hc i hi, e i hi]⟩
end

/-- a row of bytes of its own: block g (of B or above) holds n bytes from its start on; nil, if there are none -/
def Own (w : World) (B n : Nat) (p : Nat → Int) (A : Option Addr) (c : Nat) : Prop :=
  (n = 0 ∧ A = none ∧ c = 0) ∨ (∃ g C, A = some ⟨g, 0, none⟩ ∧ B ≤ g ∧ w.heap[g]? = some (.cells C 5 (0, 0)) ∧ n ≤ c ∧ c ≤ 9223372036854775807 ∧ ∀ i, i < n → C[i]? = some (.int .u8 (p i)))
section
variable {w w' : World} {A : Option Addr} {B n c : Nat} {p : Nat → Int}
theorem Own.rd (h : Own w B n p A c) : Rd w A n p := by
  intro hn
  rcases h with ⟨h0, _⟩ | ⟨g, C, rfl, hB, hg, _, _, hC⟩
  · omega
  · refine ⟨_, rfl, lt_of_block hg, fun i hi => ?_⟩
    have : (⟨g, 0, none⟩ : Addr).add i = ⟨g, i, none⟩ := by unfold Addr.add; split <;> simp_all
    rw [this]
    exact cell_at hg (hC i hi)
theorem Own.kept0 (h : Own w B n p A c) (hg : w.grownBy w' none) : Own w' B n p A c := by
  rcases h with h | ⟨g, C, e, hB, hb, r⟩
  · exact .inl h
  · exact .inr ⟨g, C, e, hB, (gb_block0 hg (lt_of_block hb)).trans hb, r⟩
theorem Own.kept (h : Own w B n p A c) {d : Nat} (hg : w.grownBy w' (some d)) (hne : ∀ a, A = some a → a.block ≠ d) : Own w' B n p A c := by
  rcases h with h | ⟨g, C, rfl, hB, hb, r⟩
  · exact .inl h
  · exact .inr ⟨g, C, rfl, hB, (gb_block hg (lt_of_block hb) (hne _ rfl)).trans hb, r⟩
theorem Own.low (h : Own w B n p A c) {B' : Nat} (hB : B' ≤ B) : Own w B' n p A c := by
  rcases h with h | ⟨g, C, e, hb, r⟩
  · exact .inl h
  · exact .inr ⟨g, C, e, Nat.le_trans hB hb, r⟩
theorem Own.lt (h : Own w B n p A c) : ∀ a, A = some a → a.block < w.heap.size ∧ B ≤ a.block := by
  intro a ha
  rcases h with ⟨_, e, _⟩ | ⟨g, C, e, hB, hb, r⟩
  · rw [e] at ha; cases ha
  · rw [e] at ha; injection ha with ha; subst ha; exact ⟨lt_of_block hb, hB⟩
theorem Own.set (h : Own w B n p A c) {q : Addr} (hq : q.block < B) (v : Value) : Own (w.setCell q v) B n p A c := by
  rcases h with h | ⟨g, C, e, hB, hb, r⟩
  · exact .inl h
  · exact .inr ⟨g, C, e, hB, (Below.heap_setCell w q v g (by omega)).trans hb, r⟩
theorem Own.le (h : Own w B n p A c) : n ≤ c ∧ c ≤ 9223372036854775807 := by
  rcases h with ⟨rfl, rfl, rfl⟩ | ⟨g, C, e, hb, _, h1, h2, _⟩
  · exact ⟨Nat.le_refl _, by omega⟩
  · exact ⟨h1, h2⟩
end

theorem info_u8 : (Tryz.prog.info? 5).map (fun i => (i.zero, i.size, i.bytes)) = some (some (.int .u8 0), 1, 1) := by kernel_rfl
set_option maxRecDepth 100000 in
/-- append onto nil copies -/
theorem run_copy (w : World) (A : Option Addr) (n c : Nat) (p : Nat → Int) (h : Rd w A n p) (hn : n ≤ 2147483648) :
    ∃ A' c' w', (Builtin.append_ #[22, 22] 22 #[.slice none 0 0, .slice A n c]).run Tryz.prog w = .ok (.slice A' n c') w' ∧ Own w' w.heap.size n p A' c' ∧ w.grownBy w' none := by
  obtain ⟨i0, hi, hz0, hz1, hz2⟩ := info_parts info_u8
  have hu : Tryz.prog.underlying 22 = some (.slice 5) := Tryz.underlying22
  rcases A with _ | a
  · have h0 : n = 0 := by
      rcases Nat.eq_zero_or_pos n with h0 | h0
      · exact h0
      · obtain ⟨_, e, _⟩ := h h0; cases e
    subst h0
    refine ⟨none, 0, w, ?_, .inl ⟨rfl, rfl, rfl⟩, gb_refl _ _⟩
    simp [Builtin.append_, run_underlying hu, sizeOf, typeInfo, hi, Builtin.lenOf, Builtin.firstCells]
  · have hc : ∀ i, i < n → w.cell? (a.add i) = some (.int .u8 (p i)) := by
      intro i hi'
      have hpos : 0 < n := Nat.lt_of_le_of_lt (Nat.zero_le i) hi'
      obtain ⟨a', e, _, hc⟩ := h hpos
      injection e with e; subst e; exact hc i hi'
    have hsz : (bys n p).length = n * 1 := by rw [bys_len, Nat.mul_one]
    have hat : ∀ j u, (bys n p)[j]? = some u → w.cell? (a.add j) = some u := fun j u hj => by
      have hj' : j < n := by
        rcases Nat.lt_or_ge j n with h | h
        · exact h
        · rw [List.getElem?_eq_none (by rw [bys_len]; exact h)] at hj; cases hj
      rw [bys_at p hj'] at hj; injection hj with hj; subst hj; exact hc j hj'
    have b1 : 0 + n ≤ maxLen := by simp only [maxLen]; omega
    have b2 : (0 + n) * 1 ≤ 140737488355328 := by omega
    obtain ⟨v', w', hrun, hown, hg, hnil, _⟩ := run_append_own_at (P := Tryz.prog) w w.heap.size 22 22 5 i0 (.int .u8 0) 1 1 hu hi hz0 hz1 hz2 rfl Nat.one_pos
      (.slice none 0 0) 0 [] (World.ownsRow_nil _ _ _ _) a n c (bys n p) hsz hat bys_one b1 b2 (Nat.le_refl _)
    rw [List.nil_append] at hown
    generalize hm : 0 + n = m at hown
    rw [Nat.zero_add] at hm
    subst hm
    rcases hown.2 with ⟨rfl, h0⟩ | ⟨g, cap, cur, rfl, hB, hgg, hnc, hcm, hsz, htk⟩
    · subst h0
      exact ⟨none, 0, w', hrun, .inl ⟨rfl, rfl, rfl⟩, hg⟩
    · refine ⟨_, cap, w', hrun, .inr ⟨g, cur, rfl, hB, hgg, hnc, by simp only [maxLen] at hcm; omega, fun i hi' => ?_⟩, hg⟩
      have : (cur.toList.take (n * 1))[i]? = some (.int .u8 (p i)) := by rw [htk]; exact bys_at p hi'
      rw [List.getElem?_take, if_pos (by omega)] at this
      simpa using this

theorem wpList_copy {ops : Array Oper} {rest : List Oper} {o : Oper} {a : Act} {w : World} {Q : Exit → Act → World → Prop} (hgd : o.guard = none) (s x : Operand)
    (ho : o.op = .call { callee := .builtin .append, args := #[s, x], argTypes := #[22, 22] }) (hty : o.type = 22) (hs : a.eval s = .slice none 0 0)
    (A : Option Addr) (n c : Nat) (p : Nat → Int) (hx : a.eval x = .slice A n c) (h : Rd w A n p) (hn : n ≤ 2147483648)
    (hK : ∀ A' c' w', Own w' w.heap.size n p A' c' → w.grownBy w' none → wpList Tryz.prog ops Q rest (a.put o.dst (.slice A' n c')) w') : wpList Tryz.prog ops Q (o :: rest) a w := by
  obtain ⟨A', c', w', hrun, h1, h2⟩ := run_copy w A n c p h hn
  refine wpList_plain hgd fun _ hk => ?_
  unfold Oper.wp execOp
  rw [ho]
  simp only [hty, resolve, invoke, builtin, Sem.run_bind, Sem.run_pure, Result.andThen_ok, List.map_toArray, List.map_cons, List.map_nil, hs, hx, hrun]
  exact hk _ _ (hK A' c' w' h1 h2)
end Go.Proofs.YtgjpohmjkhgpfaaGreat
