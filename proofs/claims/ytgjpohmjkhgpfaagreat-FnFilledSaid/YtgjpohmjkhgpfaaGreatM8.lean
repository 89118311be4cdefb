/- The law FnFilled: its walk, and what it alone needs. No condition. -/
import Derived.Test.YtgjpohmjkhgpfaaGreatRG
import Derived.Test.YtgjpohmjkhgpfaaGreatB
import Derived.Test.YtgjpohmjkhgpfaaGreatK
import Derived.Test.YtgjpohmjkhgpfaaGreatRV
import Derived.Test.YtgjpohmjkhgpfaaGreatO1
import Derived.Test.YtgjpohmjkhgpfaaGreatLB
import Derived.Test.YtgjpohmjkhgpfaaGreatN3
import Derived.Test.YtgjpohmjkhgpfaaGreatN4
import Derived.Test.YtgjpohmjkhgpfaaGreatX6
import Derived.Test.YtgjpohmjkhgpfaaGreatY2
import Derived.Test.YtgjpohmjkhgpfaaGreatLI
import Derived.Test.YtgjpohmjkhgpfaaGreatN5
import Derived.Test.YtgjpohmjkhgpfaaGreatN6
import Derived.Laws.BytesArg
import Derived.Test.YtgjpohmjkhgpfaaGreatPA
import Derived.Test.YtgjpohmjkhgpfaaGreatLF
set_option linter.unusedSimpArgs false
set_option linter.unusedVariables false
namespace Go.Proofs.YtgjpohmjkhgpfaaGreat
open Go

/-- is the operation wanted, by the values so far? -/
def wantL (t : Nat → Value) (o : Oper) : Bool := match o.guard with
  | none => true
  | some (j, want) => (match t j with | .bool b => some b | _ => none) == some want
def regOKg (os : List Oper) : Bool :=
  os.all (fun o => (match o.guard with | none => true | some (j, _) => bindsOn o j && (dstAt os j).isSome) && (match o.op with | .select .. => false | _ => true) && (depList os o).all fun p => bindsOn o p.1) &&
  (allList os).all (fun p => (allList os).all fun q => p.2 != q.2 || p.1 == q.1) &&
  (List.range os.length).all fun i => match os[i]? with
    | some o => o.after.toList.all fun e => !(Region.binds .any e) || decide (e.on < i)
    | none => true

section
variable {P : Program} {Q : Exit → Act → World → Prop}
def StepG (P : Program) (J : (Nat → Bool) → (Nat → Value) → World → Prop) (Q : Exit → Act → World → Prop) (a : Act) (i : Nat) (o : Oper) (ds : List (Nat × Nat)) : Prop :=
  ∀ l t w, J l t w → l i = false → (∀ j, bindsOn o j = true → l j = true) →
    (wantL t o = true → ∀ b : Act, b = puts t ds a → ∀ K : Act → World → Prop, Kept (∀ v w', J (upd l i true) (upd t i v) w' → K (b.put o.dst v) w') → o.wp P b w K Q) ∧
    (wantL t o = false → J (upd l i true) (upd t i undef) w)
def StepsG (P : Program) (os : List Oper) (J : (Nat → Bool) → (Nat → Value) → World → Prop) (Q : Exit → Act → World → Prop) (a : Act) : Nat → List Oper → Prop
  | _, [] => True
  | i, o :: rest => StepG P J Q a i o (depList os o) ∧ StepsG P os J Q a (i + 1) rest
theorem StepsG.nil {os J a i} : StepsG P os J Q a i [] := trivial
theorem StepsG.cons {os : List Oper} {J : (Nat → Bool) → (Nat → Value) → World → Prop} {a : Act} {i : Nat} {o : Oper} {rest : List Oper} (ds : List (Nat × Nat)) (hds : depList os o = ds) (h : StepG P J Q a i o ds) (hr : StepsG P os J Q a (i + 1) rest) : StepsG P os J Q a i (o :: rest) := by
  subst hds
  exact ⟨h, hr⟩
theorem StepsG.at {os : List Oper} {J : (Nat → Bool) → (Nat → Value) → World → Prop} {a : Act} : ∀ {rest : List Oper} {k : Nat}, StepsG P os J Q a k rest → ∀ i o, rest[i]? = some o → StepG P J Q a (k + i) o (depList os o)
  | [], _, _, i, o, h => by simp at h
  | p :: rest, k, hs, 0, o, h => by
    have : p = o := by simpa using h
    subst this
    exact hs.1
  | p :: rest, k, hs, i + 1, o, h => by
    have := StepsG.at hs.2 i o (by simpa using h)
    rw [show k + (i + 1) = k + 1 + i by omega]
    exact this

theorem wpAny_invg {os : List Oper} {J : (Nat → Bool) → (Nat → Value) → World → Prop} {a : Act} (hok : regOKg os = true) (hsz : (allList os).all (fun p => decide (p.2 < a.tmps.size)) = true)
    (hQ : ∀ c (a a' : Act) w, Q (.panic c) a w → Q (.panic c) a' w)
    (hs : StepsG P os J Q a 0 os)
    (hd : ∀ l t w, J l t w → (∀ j, j < os.length → l j = true) → Q .normal (puts t (allList os) a) w) :
    ∀ (fuel : Nat) (listed : Array Bool) (l : Nat → Bool) (t : Nat → Value) (b : Act) (w : World),
      (∀ j, j < os.length → listed[j]? = some (l j)) → (List.range os.length).countP (fun j => !(l j)) ≤ fuel → Fr os l t a b → J l t w →
      wpAny P .any os.toArray Q fuel listed b w := by
  simp only [regOKg, Bool.and_eq_true, List.all_eq_true] at hok
  obtain ⟨⟨hok1, hok2⟩, hok3⟩ := hok
  have hdd : ∀ i j d, dstAt os i = some d → dstAt os j = some d → i = j := fun i j d hi hj => by
    have := hok2 _ (mem_all.2 hi) _ (mem_all.2 hj)
    simpa using this
  have hget : ∀ i : Nat, os.toArray[i]? = os[i]? := fun i => by simp
  have hready : ∀ (listed : Array Bool) (l : Nat → Bool), (∀ j, j < os.length → listed[j]? = some (l j)) → ∀ i, i ∈ Region.ready .any os.toArray listed →
      ∃ o, os[i]? = some o ∧ i < os.length ∧ l i = false ∧ ∀ j, bindsOn o j = true → l j = true := by
    intro listed l hl i hi
    obtain ⟨h0, o, ho, hall⟩ := mem_ready.1 hi
    rw [hget] at ho
    have hlt := (List.getElem?_eq_some_iff.1 ho).1
    refine ⟨o, ho, hlt, ?_, fun j hj => ?_⟩
    · rw [Array.getD_eq_getD_getElem?, hl i hlt] at h0; exact h0
    · obtain ⟨e, he, hb⟩ := List.any_eq_true.1 hj
      simp only [Bool.and_eq_true, beq_iff_eq] at hb
      obtain ⟨hb, rfl⟩ := hb
      have h1 := hall e (Array.mem_toList_iff.1 he) hb
      have h3 := hok3 i (List.mem_range.2 hlt)
      rw [ho] at h3
      have h4 := List.all_eq_true.1 h3 e he
      rw [hb] at h4
      simp only [Bool.not_true, Bool.false_or, decide_eq_true_eq] at h4
      rw [Array.getD_eq_getD_getElem?, hl _ (by omega)] at h1
      exact h1
  have hfull : ∀ (listed : Array Bool) (l : Nat → Bool), (∀ j, j < os.length → listed[j]? = some (l j)) → Region.ready .any os.toArray listed = [] → ∀ i, i < os.length → l i = true := by
    intro listed l hl hr i
    induction i using Nat.strongRecOn with
    | ind i ih =>
      intro hi
      cases hli : l i with
      | true => rfl
      | false =>
        exfalso
        have : i ∈ Region.ready .any os.toArray listed := by
          refine mem_ready.2 ⟨?_, os[i], ?_, fun e he hb => ?_⟩
          · rw [Array.getD_eq_getD_getElem?, hl i hi, hli]; rfl
          · rw [hget]; exact List.getElem?_eq_getElem hi
          · have h3 := hok3 i (List.mem_range.2 hi)
            rw [List.getElem?_eq_getElem hi] at h3
            have h4 := List.all_eq_true.1 h3 e (Array.mem_toList_iff.2 he)
            rw [hb] at h4
            simp only [Bool.not_true, Bool.false_or, decide_eq_true_eq] at h4
            rw [Array.getD_eq_getD_getElem?, hl _ (by omega), ih _ h4 (by omega)]
            rfl
        rw [hr] at this
        cases this
  have hstep : ∀ (listed : Array Bool) (l : Nat → Bool) (t : Nat → Value) (b : Act) (w : World), (∀ j, j < os.length → listed[j]? = some (l j)) → Fr os l t a b → J l t w → ∀ i, i ∈ Region.ready .any os.toArray listed →
      ∀ K : Act → World → Prop, (∀ v w' o, os[i]? = some o → l i = false → J (upd l i true) (upd t i v) w' → Fr os (upd l i true) (upd t i v) a (b.put o.dst v) → K (b.put o.dst v) w') → wpOp P os.toArray Q i K b w := by
    intro listed l t b w hl hF hJ i hi K hK
    obtain ⟨o, ho, hlt, hli, hdep⟩ := hready listed l hl i hi
    have hmem : o ∈ os := List.mem_of_getElem? ho
    have h1 := hok1 o hmem
    obtain ⟨⟨hg, hsel⟩, hcov⟩ := h1
    have hcov' : ∀ p ∈ depList os o, l p.1 = true := fun p hp => hdep _ (hcov p hp)
    have hw : Region.wanted o (yielded os.toArray b.tmps) = wantL t o := by
      unfold Region.wanted wantL
      cases hgg : o.guard with
      | none => rfl
      | some g =>
        obtain ⟨g, want⟩ := g
        rw [hgg] at hg
        simp only [Bool.and_eq_true] at hg
        cases hdg : dstAt os g with
        | none => rw [hdg] at hg; cases hg.2
        | some d =>
          have hlt' : d < a.tmps.size := by
            have := List.all_eq_true.1 hsz _ (mem_all.2 hdg)
            simpa using this
          have hh := hF.hit g d hdg (hdep _ hg.1) hlt'
          have hy : yielded os.toArray b.tmps g = (match t g with | .bool b => some b | _ => none) := by
            unfold yielded
            obtain ⟨p, hp, hpd⟩ := dstAt_some.1 hdg
            rw [hget, hp]
            simp only [Option.bind_some, hpd, hh]
            cases t g <;> rfl
          show (yielded os.toArray b.tmps g == some want) = _
          rw [hy]
    have hns : ∀ cs d, o.op ≠ .select cs d := fun cs d e => by rw [e] at hsel; cases hsel
    have hdst : dstAt os i = o.dst := by unfold dstAt; rw [ho]
    have hst := hs.at i o ho
    rw [Nat.zero_add] at hst
    unfold wpOp
    rw [hget, ho]
    simp only [hw]
    cases hwl : wantL t o with
    | true =>
      simp only [if_true]
      refine .inl (wp_frame (a := puts t (depList os o) a) (R := fun v w' => J (upd l i true) (upd t i v) w') (execOp_congr o hns fun x hx => hF.eval hdd hcov' hx) ?_ hQ ?_ ?_)
      · rw [puts_size]; exact hF.size
      · intro v w' hJ'
        exact hK v w' o ho hli hJ' (hF.put hdd hdst hli)
      · exact (hst l t w hJ hli hdep).1 hwl _ rfl _ (fun v w' hJ' => ⟨v, rfl, hJ'⟩)
    | false =>
      simp only [Bool.false_eq_true, if_false]
      exact hK undef w o ho hli ((hst l t w hJ hli hdep).2 hwl) (hF.put hdd hdst hli)
  intro fuel
  induction fuel with
  | zero =>
    intro listed l t b w hl hc hF hJ
    have hr : Region.ready .any os.toArray listed = [] := by
      apply List.eq_nil_iff_forall_not_mem.2
      intro i hi
      obtain ⟨o, ho, hlt, hli, -⟩ := hready listed l hl i hi
      have := cnt_lt (List.range os.length) (List.mem_range.2 hlt) hli
      omega
    have hall := hfull listed l hl hr
    refine ⟨hr, ?_⟩
    rw [hF.all hdd hall]
    exact hd l t w hJ hall
  | succ fuel ih =>
    intro listed l t b w hl hc hF hJ
    refine ⟨fun hr => ?_, fun i hi => ?_⟩
    · have hall := hfull listed l hl hr
      rw [hF.all hdd hall]
      exact hd l t w hJ hall
    · refine hstep listed l t b w hl hF hJ i hi _ fun v w' o ho hli hJ' hF' => ?_
      have hlt := (List.getElem?_eq_some_iff.1 ho).1
      refine ih _ (upd l i true) (upd t i v) _ w' (fun j hj => ?_) ?_ hF' hJ'
      · by_cases hji : j = i
        · subst hji
          rw [upd_same]
          have hsz : j < listed.size := by
            rcases Nat.lt_or_ge j listed.size with h | h
            · exact h
            · have := hl j hj; rw [Array.getElem?_eq_none h] at this; cases this
          simp [hsz]
        · rw [upd_ne _ _ hji, Array.getElem?_setIfInBounds_ne (Ne.symm hji)]
          exact hl j hj
      · have := cnt_lt (List.range os.length) (List.mem_range.2 hlt) hli
        omega

/-- the region is shown not to panic -/
theorem wp_region_invg {id : Nat} {os : List Oper} {a : Act} {w : World} (J : (Nat → Bool) → (Nat → Value) → World → Prop) (t0 : Nat → Value) (hm : P.follows .mixedOrders = true) (hok : regOKg os = true)
    (hsz : (allList os).all (fun p => decide (p.2 < a.tmps.size)) = true) (dl : List (Nat × Nat)) (hdl : allList os = dl)
    (h0 : J (fun _ => false) t0 w.drew)
    (hs : StepsG P os J (NoPanic Q) a 0 os)
    (hd : ∀ l t w, J l t w → (∀ j, j < os.length → l j = true) → Q .normal (puts t dl a) w) : (Code.region id os.toArray true).wp P Q a w := by
  subst hdl
  refine wp_region_noPanic (wp_region_any hm (wpAny_invg (J := J) hok hsz (fun _ _ _ _ h => h) hs (fun l t w hJ hl => NoPanic.normal (hd l t w hJ hl)) _ _ (fun _ => false) t0 _ _ (fun j hj => ?_) ?_ (Fr.refl fun _ => rfl) h0))
  · simp [hj]
  · refine Nat.le_trans (List.countP_le_length) ?_
    simp
end
end Go.Proofs.YtgjpohmjkhgpfaaGreat

namespace Go.Proofs.YtgjpohmjkhgpfaaGreat
open Go.RowKit

/-- block b's first cells hold vs -/
def CellsAt (w : World) (b : Nat) (vs : List Value) : Prop := ∀ i v, vs[i]? = some v → w.cell? ⟨b, i, none⟩ = some v
theorem CellsAt.kept0 {w w' : World} {b : Nat} {vs : List Value} (h : CellsAt w b vs) (hg : w.grownBy w' none) : CellsAt w' b vs := fun i v hv =>
  (gb_cell0 hg (p := ⟨b, i, none⟩) (World.block_lt_of_cell? w _ (h i v hv))).trans (h i v hv)
theorem CellsAt.lt {w : World} {b : Nat} {v : Value} {vs : List Value} (h : CellsAt w b (v :: vs)) : b < w.heap.size := World.block_lt_of_cell? w _ (h 0 v rfl)
/-- bytes that lie in a block's first cells can be read -/
theorem CellsAt.rd {w : World} {b n : Nat} {f : Nat → Int} (h : ∀ i, i < n → w.cell? ⟨b, i, none⟩ = some (.int .u8 (f i))) : Rd w (some ⟨b, 0, none⟩) n f := by
  intro hn
  refine ⟨⟨b, 0, none⟩, rfl, World.block_lt_of_cell? w _ (h 0 hn), fun i hi => ?_⟩
  have e : (⟨b, 0, none⟩ : Addr).add i = ⟨b, i, none⟩ := by unfold Addr.add; by_cases h : i = 0 <;> simp [h]
  rw [e]
  exact h i hi
theorem vsOK1 {a s : Nat} {v : List Value} (h : (a != s) = true) : vsOK [(a, s, v)] := by
  have h' : a ≠ s := by simpa using h
  refine ⟨fun x y hx hy e => ?_, fun x y hx hy e => ?_, fun x y hx hy e => ?_⟩ <;>
    (simp only [List.mem_cons, List.not_mem_nil, or_false] at hx hy; subst hx hy; first | rfl | exact h' e)
end Go.Proofs.YtgjpohmjkhgpfaaGreat

namespace Go.Proofs.YtgjpohmjkhgpfaaGreat
open Go.ChangeShapes Go.WideShapes Go.ChangeAt Go.RowKit

section
variable {H : Type} {enc : TypeId × Value → H} {w : World} {base : Nat} {spare : Nat → Bool} {held : Bool}
theorem wf_u8 {n : Int} (h : (Lit.int .u8 n).wf = true) : 0 ≤ n ∧ n ≤ 255 := by
  simp [Lit.wf, IntKind.min, IntKind.max, IntKind.signed, IntKind.bits] at h
  omega
set_option maxRecDepth 100000 in
theorem open_eight {r : Reach} {b0 : Nat} {v : Value} {d : DataW H} {pl : List MemPlace} (hv : Value.okWide Tryz.prog w r b0 50 v) (h : DataW.Trod enc Tryz.prog w base spare held 50 v d pl) :
    ∃ f : Nat → Int, v = .agg #[.int .u8 (f 0), .int .u8 (f 1), .int .u8 (f 2), .int .u8 (f 3), .int .u8 (f 4), .int .u8 (f 5), .int .u8 (f 6), .int .u8 (f 7)] ∧ By f := by
  have hs := Tryz.underlying50
  have hv' : ∃ cs, v = .agg cs ∧ cs.size = Tryz.prog.cellsOf 50 := by
    unfold Value.okWide at hv
    rw [hs] at hv
    obtain ⟨cs, e, hsz, _⟩ := hv
    exact ⟨cs, e, hsz⟩
  obtain ⟨cs, rfl, hsz⟩ := hv'
  obtain ⟨l⟩ := cs
  have hC : Tryz.prog.cellsOf 50 = 8 := by kernel_rfl
  have C3 : Tryz.prog.cellsOf 5 = 1 := by kernel_rfl
  match l, hsz.trans hC with
  | [c0, c1, c2, c3, c4, c5, c6, c7], _ =>
    obtain ⟨fuel, hf⟩ := h
    obtain ⟨xs, n, _, hx, _, hlen, hg⟩ := DataW.trod_array hs hf
    match xs, hlen with
    | [y0, y1, y2, y3, y4, y5, y6, y7], _ =>
      obtain ⟨k0, e0, -, w0⟩ := DataW.trod_int Tryz.underlying5 (show DataW.trod enc Tryz.prog w base spare held n 5 [c0] = some y0 by simpa [Value.cells, C3] using hg 0 (by omega))
      obtain ⟨k1, e1, -, w1⟩ := DataW.trod_int Tryz.underlying5 (show DataW.trod enc Tryz.prog w base spare held n 5 [c1] = some y1 by simpa [Value.cells, C3] using hg 1 (by omega))
      obtain ⟨k2, e2, -, w2⟩ := DataW.trod_int Tryz.underlying5 (show DataW.trod enc Tryz.prog w base spare held n 5 [c2] = some y2 by simpa [Value.cells, C3] using hg 2 (by omega))
      obtain ⟨k3, e3, -, w3⟩ := DataW.trod_int Tryz.underlying5 (show DataW.trod enc Tryz.prog w base spare held n 5 [c3] = some y3 by simpa [Value.cells, C3] using hg 3 (by omega))
      obtain ⟨k4, e4, -, w4⟩ := DataW.trod_int Tryz.underlying5 (show DataW.trod enc Tryz.prog w base spare held n 5 [c4] = some y4 by simpa [Value.cells, C3] using hg 4 (by omega))
      obtain ⟨k5, e5, -, w5⟩ := DataW.trod_int Tryz.underlying5 (show DataW.trod enc Tryz.prog w base spare held n 5 [c5] = some y5 by simpa [Value.cells, C3] using hg 5 (by omega))
      obtain ⟨k6, e6, -, w6⟩ := DataW.trod_int Tryz.underlying5 (show DataW.trod enc Tryz.prog w base spare held n 5 [c6] = some y6 by simpa [Value.cells, C3] using hg 6 (by omega))
      obtain ⟨k7, e7, -, w7⟩ := DataW.trod_int Tryz.underlying5 (show DataW.trod enc Tryz.prog w base spare held n 5 [c7] = some y7 by simpa [Value.cells, C3] using hg 7 (by omega))
      injection e0 with e0; injection e1 with e1; injection e2 with e2; injection e3 with e3; injection e4 with e4; injection e5 with e5; injection e6 with e6; injection e7 with e7
      subst e0 e1 e2 e3 e4 e5 e6 e7
      refine ⟨fun i => match i with | 0 => k0 | 1 => k1 | 2 => k2 | 3 => k3 | 4 => k4 | 5 => k5 | 6 => k6 | 7 => k7 | _ => 0, rfl, fun i => ?_⟩
      match i with
      | 0 => exact wf_u8 w0
      | 1 => exact wf_u8 w1
      | 2 => exact wf_u8 w2
      | 3 => exact wf_u8 w3
      | 4 => exact wf_u8 w4
      | 5 => exact wf_u8 w5
      | 6 => exact wf_u8 w6
      | 7 => exact wf_u8 w7
      | _ + 8 => exact ⟨Int.le_refl 0, (by decide : (0 : Int) ≤ 255)⟩
end
end Go.Proofs.YtgjpohmjkhgpfaaGreat

namespace Go.Proofs.YtgjpohmjkhgpfaaGreat
open Go.RowKit

set_option maxRecDepth 100000 in
set_option maxHeartbeats 4000000 in
theorem shas_y (x0 y0 x1 y1 x y : Int) (w : World) (h1 : x0 ≤ x) (h2 : x < x1) (h3 : y0 ≤ y) (h4 : y < y1) :
    Calls Tryz.prog 28 #[vR x0 y0 x1 y1, .int .i64 x, .int .i64 y] w fun e w' => e = .returned (.bool true) ∧ w.grownBy w' none := by
  go_enter Tryz.func28, Tryz.ntmps28
  go_wp2
  go_ret
  exact ⟨rfl, gb_alloc (gb_refl _ _) _⟩
set_option maxRecDepth 100000 in
set_option maxHeartbeats 4000000 in
theorem shas_n (x0 y0 x1 y1 x y : Int) (w : World) (h : ¬ (x0 ≤ x ∧ x < x1 ∧ y0 ≤ y ∧ y < y1)) :
    Calls Tryz.prog 28 #[vR x0 y0 x1 y1, .int .i64 x, .int .i64 y] w fun e w' => e = .returned (.bool false) ∧ w.grownBy w' none := by
  by_cases h1 : x0 ≤ x
  · by_cases h2 : x < x1
    · by_cases h3 : y0 ≤ y
      · have h4 : ¬ y < y1 := fun h4 => h ⟨h1, h2, h3, h4⟩
        clear h
        go_enter Tryz.func28, Tryz.ntmps28
        go_wp2
        go_ret
        exact ⟨rfl, gb_alloc (gb_refl _ _) _⟩
      · clear h
        go_enter Tryz.func28, Tryz.ntmps28
        go_wp2
        go_ret
        exact ⟨rfl, gb_alloc (gb_refl _ _) _⟩
    · clear h
      go_enter Tryz.func28, Tryz.ntmps28
      go_wp2
      go_ret
      exact ⟨rfl, gb_alloc (gb_refl _ _) _⟩
  · clear h
    go_enter Tryz.func28, Tryz.ntmps28
    go_wp2
    go_ret
    exact ⟨rfl, gb_alloc (gb_refl _ _) _⟩
end Go.Proofs.YtgjpohmjkhgpfaaGreat

namespace Go.Proofs.YtgjpohmjkhgpfaaGreat
open Go.RowKit

theorem src_slice {w : World} {b pb h wd k : Nat} {x0 y0 : Int} {S : Nat → Nat → Nat → Int} {t : TypeId} (H : Src w b pb h wd x0 y0 S k t) (hk : k < 6) : ∃ n c, w.cell? ⟨b, 0, none⟩ = some (.slice (some ⟨pb, 0, none⟩) n c) := by
  cases H <;> (first | omega | skip)
  all_goals (rename_i H; obtain ⟨n, c, _, h, _⟩ := H.cells; exact ⟨n, c, h⟩)
theorem src_lim {w : World} {b pb h wd k : Nat} {x0 y0 : Int} {S : Nat → Nat → Nat → Int} {t : TypeId} (H : Src w b pb h wd x0 y0 S k t) (hk : k < 6) : b ≠ pb ∧ -3000 ≤ x0 ∧ x0 ≤ 3000 ∧ -3000 ≤ y0 ∧ y0 ≤ 3000 ∧ wd ≤ 128 ∧ h ≤ 128 := by
  cases H <;> (first | omega | skip)
  all_goals (rename_i H; obtain ⟨_, _, _, -, -, -, -, -, -, -, -, -, -, -, -, hne, l1, l2, v1, v2, v3, v4, -⟩ := H.cells; exact ⟨hne, v1, v2, v3, v4, l1, l2⟩)
theorem src_sm {w : World} {b pb h wd k : Nat} {x0 y0 : Int} {S : Nat → Nat → Nat → Int} {t : TypeId} (H : Src w b pb h wd x0 y0 S k t) : sm x0 ∧ sm y0 ∧ sm wd ∧ sm h := by
  by_cases hk : k < 6
  · have := src_lim H hk
    unfold sm; omega
  · cases H <;> (first | omega | skip)
    rename_i e1 e2 e3 e4
    subst e1 e2 e3 e4
    unfold sm; omega
theorem src_apart {w : World} {b g h wd kd b' g' h' wd' ks : Nat} {x0 y0 x0' y0' : Int} {D S : Nat → Nat → Nat → Int} {td ts : TypeId} (H : Src w b g h wd x0 y0 D kd td) (H' : Src w b' g' h' wd' x0' y0' S ks ts) (hk : kd < 6) (hg : g' ≠ g) : b ≠ b' := by
  rintro rfl
  obtain ⟨n, c, h1⟩ := src_slice H hk
  by_cases hk' : ks < 6
  · obtain ⟨n', c', h2⟩ := src_slice H' hk'
    rw [h1] at h2
    injection h2 with h2
    injection h2 with h2
    injection h2 with h2
    injection h2 with h2
    exact hg h2.symm
  · cases H' <;> (first | omega | skip)
    rename_i hc _ _ _ _ _ _
    rw [h1] at hc
    cases hc

theorem mdm_k {w : World} {B n c b kd dh dw B' n' c' b' ks sh sw op : Nat} {dx0 dy0 dx1 dy1 sx0 sy0 sx1 sy1 x0 y0 x1 y1 px py : Int} {p s : Nat → Int} {A A' : Option Addr} {td ts : TypeId} (hop : op ≤ 1) (hkd : kd = 2 ∨ kd = 4)
    (Hd : IM w B dx0 dy0 dx1 dy1 n p A c b kd td) (Hs : IM w B' sx0 sy0 sx1 sy1 n' s A' c' b' ks ts) (GD : Geo kd dx0 dy0 dx1 dy1 n dh dw) (GS : Geo ks sx0 sy0 sx1 sy1 n' sh sw) (hp : By p) (hs : By s)
    (hpm : ∀ r c, Pm ks (srcP ks sw s r c)) (hap : Apart A b' A')
    (m1 : sm x0) (m2 : sm y0) (m3 : sm px) (m4 : sm py) (m5 : sm (x0 - px)) (m6 : sm (y0 - py)) :
    Calls Tryz.prog 42 #[.iface td (.pointer (some ⟨b, 0, none⟩)), vR x0 y0 x1 y1, .iface ts (.pointer (some ⟨b', 0, none⟩)), vP px py, .nilIface, vP 0 0, .int .i64 op] w
      (DMout w B n c A (resB kd dw (In0 x0 y0 x1 y1 px py dx0 dy0 sx0 sy0 sh sw) (fun r c => px0 kd ks op (toP dw (sz kd) p r c) (srcAt ks sw s x0 y0 px py dx0 dy0 sx0 sy0 r c)) p)) := by
  refine mdm0_of (by omega) Hd Hs GD GS hp hs m1 m2 m3 m4 m5 m6 ?_
  intro rx ry xe ye ax ay b0 b1 b2 b3 p0 p1 q0 q1 g hA S1 S2 hC hR hP
  have hap' := hap _ hA
  have n1 : b' ≠ g := fun e => hap'.1 e.symm
  have n2 : pbk ks A' b' ≠ g := by
    by_cases h6 : ks = 6
    · unfold pbk; rw [if_pos h6]; exact n1
    · unfold pbk; rw [if_neg h6]
      rcases GS with ⟨h, _⟩ | ⟨-, e1, e2, hn', l1, l2, v1, v2, v3, v4⟩
      · exact absurd h h6
      · have hR' := hR
        obtain ⟨-, -, -, -, r1, r2, r3, r4⟩ := hR'
        have hP' := hP
        obtain ⟨-, -, r5, r6⟩ := hP'
        obtain ⟨g', e, _⟩ := Hs.dst h6 (by rw [hn']; exact Nat.mul_pos (by omega) (Nat.mul_pos (by omega) (sz_pos ks)))
        rw [e]
        exact hap'.2 _ e
  obtain ⟨n3, hb⟩ := src_lim S1 (by omega)
  exact dm17_0 w S1 hkd S2 hop hpm (src_apart S1 S2 (by omega) n2) n1 n2 n3 hC hR hP hb (src_sm S2)

theorem mdm_0_6 {w : World} {B n c b dh dw B' n' c' b' sh sw op : Nat} {dx0 dy0 dx1 dy1 sx0 sy0 sx1 sy1 x0 y0 x1 y1 px py : Int} {p s : Nat → Int} {A A' : Option Addr} {td ts : TypeId} (hop : op ≤ 1)
    (Hd : IM w B dx0 dy0 dx1 dy1 n p A c b 0 td) (Hs : IM w B' sx0 sy0 sx1 sy1 n' s A' c' b' 6 ts) (GD : Geo 0 dx0 dy0 dx1 dy1 n dh dw) (GS : Geo 6 sx0 sy0 sx1 sy1 n' sh sw) (hp : By p) (hs : By s)
    (hpm : Pm 6 s)
    (m1 : sm x0) (m2 : sm y0) (m3 : sm px) (m4 : sm py) (m5 : sm (x0 - px)) (m6 : sm (y0 - py)) :
    Calls Tryz.prog 42 #[.iface td (.pointer (some ⟨b, 0, none⟩)), vR x0 y0 x1 y1, .iface ts (.pointer (some ⟨b', 0, none⟩)), vP px py, .nilIface, vP 0 0, .int .i64 op] w
      (DMout w B n c A (resB 0 dw (In0 x0 y0 x1 y1 px py dx0 dy0 sx0 sy0 sh sw) (fun r c => px0 0 6 op (toP dw (sz 0) p r c) (srcAt 6 sw s x0 y0 px py dx0 dy0 sx0 sy0 r c)) p)) := by
  refine mdm0_of (by omega) Hd Hs GD GS hp hs m1 m2 m3 m4 m5 m6 ?_
  intro rx ry xe ye ax ay b0 b1 b2 b3 p0 p1 q0 q1 g hA S1 S2 hC hR hP
  have e : ∀ r c, srcP 6 sw s r c = s := fun r c => by unfold srcP; rw [if_pos rfl]
  cases S1
  case k0 S1 => exact dm_0_6 w S1 S2 (by omega) (fun r c => by rw [e]; exact hpm) hC hR
end Go.Proofs.YtgjpohmjkhgpfaaGreat

namespace Go.Proofs.YtgjpohmjkhgpfaaGreat
open Go.RowKit
theorem mdm_f {w : World} {B n c b kd dh dw B' n' c' b' sh sw : Nat} {dx0 dy0 dx1 dy1 sx0 sy0 sx1 sy1 x0 y0 x1 y1 px py : Int} {p s : Nat → Int} {A A' : Option Addr} {td ts : TypeId} (hkd : kd = 0 ∨ kd = 4 ∨ kd = 2)
    (Hd : IM w B dx0 dy0 dx1 dy1 n p A c b kd td) (Hs : IM w B' sx0 sy0 sx1 sy1 n' s A' c' b' 6 ts) (GD : Geo kd dx0 dy0 dx1 dy1 n dh dw) (GS : Geo 6 sx0 sy0 sx1 sy1 n' sh sw) (hp : By p) (hs : By s)
    (hpm : Pm 6 s) (hap : Apart A b' A')
    (m1 : sm x0) (m2 : sm y0) (m3 : sm px) (m4 : sm py) (m5 : sm (x0 - px)) (m6 : sm (y0 - py)) :
    Calls Tryz.prog 42 #[.iface td (.pointer (some ⟨b, 0, none⟩)), vR x0 y0 x1 y1, .iface ts (.pointer (some ⟨b', 0, none⟩)), vP px py, .nilIface, vP 0 0, .int .i64 ((1 : Nat) : Int)] w
      (DMout w B n c A (resB kd dw (In0 x0 y0 x1 y1 px py dx0 dy0 sx0 sy0 sh sw) (fun r c => px0 kd 6 1 (toP dw (sz kd) p r c) (srcAt 6 sw s x0 y0 px py dx0 dy0 sx0 sy0 r c)) p)) := by
  have e : ∀ r c, Pm 6 (srcP 6 sw s r c) := fun r c => by unfold srcP; rw [if_pos rfl]; exact hpm
  rcases hkd with rfl | rfl | rfl
  · exact mdm_0_6 (op := 1) (by omega) Hd Hs GD GS hp hs hpm m1 m2 m3 m4 m5 m6
  · exact mdm_k (op := 1) (by omega) (.inr rfl) Hd Hs GD GS hp hs e hap m1 m2 m3 m4 m5 m6
  · exact mdm_k (op := 1) (by omega) (.inl rfl) Hd Hs GD GS hp hs e hap m1 m2 m3 m4 m5 m6
end Go.Proofs.YtgjpohmjkhgpfaaGreat

namespace Go.Proofs.YtgjpohmjkhgpfaaGreat
open Go.RowKit

/-- columns and rows of a valid image that is not of one color -/
theorem vk_geo {k : Nat} {x0 y0 x1 y1 : Int} {n : Nat} {p : Nat → Int} (hk : k < 6) (h : VK k x0 y0 x1 y1 n p) :
    ∃ hh wd : Nat, Geo k x0 y0 x1 y1 n hh wd ∧ x1 = x0 + wd ∧ y1 = y0 + hh ∧ n = hh * (wd * sz k) ∧ wd ≤ 128 ∧ hh ≤ 128 ∧ -64 ≤ x0 ∧ x0 ≤ 64 ∧ -64 ≤ y0 ∧ y0 ≤ 64 := by
  rcases h with ⟨-, ⟨h0, h1, h2, h3, h4, h5⟩, h6, -⟩ | ⟨h6, -⟩
  · obtain ⟨u, hu⟩ := Int.eq_ofNat_of_zero_le (show 0 ≤ x1 - x0 by omega)
    obtain ⟨v, hv⟩ := Int.eq_ofNat_of_zero_le (show 0 ≤ y1 - y0 by omega)
    rw [hu, hv] at h6
    have hn : n = v * (u * sz k) := by
      have e : ((v * (u * sz k) : Nat) : Int) = (u : Int) * v * (sz k : Int) := by push_cast; rw [← Int.mul_assoc, Int.mul_comm (v : Int) u]
      omega
    exact ⟨v, u, .inr ⟨hk, by omega, by omega, hn, by omega, by omega, by omega, by omega, by omega, by omega⟩, by omega, by omega, hn, by omega, by omega, by omega, by omega, by omega, by omega⟩
  · omega
theorem vk_dat {k : Nat} {x0 y0 x1 y1 : Int} {n : Nat} {p : Nat → Int} (hk : k < 6) (h : VK k x0 y0 x1 y1 n p) (hp : By p) (hn : n ≤ 2147483647) : Dat k x0 y0 x1 y1 x0 y0 x1 y1 n p := by
  obtain ⟨hh, wd, -, e1, e2, -, l1, l2, v1, v2, v3, v4⟩ := vk_geo hk h
  have b : ∀ f x, bdk k f x = x := fun f x => by unfold bdk; rw [if_neg (by omega)]
  exact ⟨hp, by omega, by omega, by omega, by unfold sm; omega, by unfold sm; omega, b _ _, b _ _, b _ _, b _ _⟩
end Go.Proofs.YtgjpohmjkhgpfaaGreat

namespace Go.Proofs.YtgjpohmjkhgpfaaGreat
open Go.RowKit

set_option maxRecDepth 100000 in
set_option maxHeartbeats 4000000 in
theorem target_c {k x0 y0 x1 y1 : Int} {A : Option Addr} {n c : Nat} {p : Nat → Int} (w : World) (h : Rd w A n p) (hp : By p) (hn : n ≤ 2147483647) (hc : n ≤ c) (hc2 : c ≤ 9223372036854775807) :
    Calls Tryz.prog 15 #[vI k x0 y0 x1 y1 A n c] w (BoolOut w (∃ kk : Nat, k = kk ∧ (kk = 0 ∨ kk = 4 ∨ kk = 2) ∧ VK kk x0 y0 x1 y1 n p)) := by
  have H := hid h
  have HP := hid hp
  clear h hp
  by_cases hk : k = 0 ∨ k = 4 ∨ k = 2
  · rcases hk with rfl | rfl | rfl
    all_goals
      go_enter Tryz.func15, Tryz.ntmps15
      go_wp2_with fail
      refine (valid_c _ (H.out.kept0 (gb_alloc (gb_refl _ _) _)) HP.out hn hc hc2).mono ?_
      rintro e w1 ⟨b, rfl, hb, hg⟩
      have HB := hid hb
      have HG := hid (gb_trans (gb_alloc (gb_refl w none) _) hg)
      clear hb hg
      go_wp2
      go_ret
      refine ⟨b, rfl, fun h => ?_, HG.out⟩
      obtain ⟨kk, e, hv⟩ := HB.out h
      exact ⟨kk, e, by omega, hv⟩
  · have b0 : (k == 0) = false := beq_eq_false_iff_ne.2 (fun e => hk (.inl e))
    have b4 : (k == 4) = false := beq_eq_false_iff_ne.2 (fun e => hk (.inr (.inl e)))
    have b2 : (k == 2) = false := beq_eq_false_iff_ne.2 (fun e => hk (.inr (.inr e)))
    clear hk
    go_enter Tryz.func15, Tryz.ntmps15
    go_wp2
    go_ret
    exact ⟨false, rfl, fun h => Bool.noConfusion h, gb_alloc (gb_refl _ _) _⟩

end Go.Proofs.YtgjpohmjkhgpfaaGreat

namespace Go.Proofs.YtgjpohmjkhgpfaaGreat
open Go.RowKit

/-- the bytes f 0 .. f (n - 1) -/
def byL (n : Nat) (f : Nat → Int) : List Int := (List.range n).map f
theorem byL_congr {n : Nat} {f g : Nat → Int} (h : ∀ i, i < n → f i = g i) : byL n f = byL n g :=
  List.map_congr_left fun i hi => h i (List.mem_range.1 hi)
theorem fold_push (xs : List Int) : ∀ b : ByteArray, List.foldl (fun r n => r.push (UInt8.ofNat n.toNat)) b xs = ⟨b.data ++ (xs.map fun n => UInt8.ofNat n.toNat).toArray⟩ := by
  induction xs with
  | nil => intro b; simp
  | cons x xs ih =>
    intro b
    rw [List.foldl_cons, ih]
    simp [ByteArray.push]
theorem convN {w : World} {A : Addr} {n : Nat} {f : Nat → Int} (c : Nat) (h : ∀ i, i < n → w.cell? (A.add i) = some (.int .u8 (f i))) :
    (convert 22 9 (.slice (some A) n c)).run Tryz.prog w = .ok (.string (strOfNums (byL n f))) w := by
  have hl := run_loadCells_list (P := Tryz.prog) w A ((byL n f).map (.int .u8 ·)) (fun j v hj => by
    have hjn : j < n := by
      rcases Nat.lt_or_ge j n with h | h
      · exact h
      · rw [List.getElem?_eq_none (by simpa [byL] using h)] at hj; cases hj
    have e : ((byL n f).map (Value.int .u8 ·))[j]? = some (.int .u8 (f j)) := by simp [byL, hjn]
    rw [e] at hj
    injection hj with hj
    subst hj
    exact h j hjn)
  have hlen : ((byL n f).map (Value.int .u8 ·)).length = n := by simp [byL]
  rw [hlen] at hl
  rw [run_convert_bytes_string w 22 9 5 _ n c Tryz.underlying22 (by kernel_rfl) (by kernel_rfl), run_bytesToString w _ n c (byL n f) hl, fold_push]
  simp [strOfNums, ByteArray.empty, ByteArray.emptyWithCapacity]
  rfl
theorem convNn {w : World} {A : Addr} {n : Nat} {f : Nat → Int} (c : Nat) (h : ∀ i, i < n → w.cell? (A.add i) = some (.int .u8 (f i))) (k : Nat) :
    (convert 22 9 (.slice (some A) n c)).run Tryz.prog (w.drewN k) = .ok (.string (strOfNums (byL n f))) (w.drewN k) :=
  convN c (fun i hi => by rw [World.cell?_drewN]; exact h i hi)

/-- a byte of a drawn pixel -/
theorem res_atk {k dw r c ch : Nat} {I : Nat → Nat → Prop} {F : Nat → Nat → Nat → Int} {p : Nat → Int} (hc : c < dw) (hch : ch < sz k) (hI : I r c) : resB k dw I F p ((r * dw + c) * sz k + ch) = F r c ch := by
  have h0 : (r * dw + c) * sz k + ch = r * (dw * sz k) + (c * sz k + ch) := by rw [Nat.add_mul, Nat.mul_assoc]; omega
  have hm := pix_col (k := sz k) hc hch
  have e1 : ((r * dw + c) * sz k + ch) / (dw * sz k) = r := by rw [h0, Nat.mul_comm r, Nat.mul_add_div (by omega), Nat.div_eq_of_lt hm, Nat.add_zero]
  have e2 : ((r * dw + c) * sz k + ch) % (dw * sz k) = c * sz k + ch := by rw [h0, Nat.mul_comm r, Nat.mul_add_mod, Nat.mod_eq_of_lt hm]
  unfold resB unP
  rw [e1, e2]
  have e3 : (c * sz k + ch) / sz k = c := by rw [Nat.mul_comm c, Nat.mul_add_div (by omega), Nat.div_eq_of_lt hch, Nat.add_zero]
  have e4 : (c * sz k + ch) % sz k = ch := by rw [Nat.mul_comm c, Nat.mul_add_mod, Nat.mod_eq_of_lt hch]
  rw [e3, e4, pt_pos hI]
/-- one color, cut to the kind's bytes -/
def cut1 (k : Nat) (col : Nat → Int) (ch : Nat) : Int := match k with
  | 0 => col (2 * ch)
  | 2 => col 6
  | _ => col ch
theorem one_px {k : Nat} {d col : Nat → Int} (hk : k = 0 ∨ k = 2 ∨ k = 4) (hc : By col) (ch : Nat) : px0 k 6 1 d col ch = cut1 k col ch := by
  have e : px0 k 6 1 d col = en k (cl 6 col) := by unfold px0 mix0; simp only [if_neg (show ¬ (1 = 0) by decide)]
  rw [e]
  rcases hk with rfl | rfl | rfl
  · rw [en0, cl6]
    have h1 := hc (2 * ch); have h2 := hc (2 * ch + 1)
    show _ = col (2 * ch)
    omega
  · rw [en2, cl6]
    have h1 := hc (2 * 3); have h2 := hc (2 * 3 + 1)
    show _ = col (2 * 3)
    omega
  · rw [en4, cl6]
    have h1 := hc (2 * (ch / 2)); have h2 := hc (2 * (ch / 2) + 1)
    show _ = col ch
    split
    · have : 2 * (ch / 2) = ch := by omega
      rw [this] at h1 h2 ⊢
      omega
    · have : 2 * (ch / 2) + 1 = ch := by omega
      rw [this] at h2 ⊢
      omega
end Go.Proofs.YtgjpohmjkhgpfaaGreat

namespace Go.Proofs.YtgjpohmjkhgpfaaGreat
open Go.RowKit

theorem ia_in {x0 y0 x1 y1 u0 v0 u1 v1 b0 b1 b2 b3 x y : Int} (hb : ia 0 x0 y0 x1 y1 u0 v0 u1 v1 = b0 ∧ ia 1 x0 y0 x1 y1 u0 v0 u1 v1 = b1 ∧ ia 2 x0 y0 x1 y1 u0 v0 u1 v1 = b2 ∧ ia 3 x0 y0 x1 y1 u0 v0 u1 v1 = b3)
    (h : b0 ≤ x ∧ x < b2 ∧ b1 ≤ y ∧ y < b3) : x0 ≤ x ∧ x < x1 ∧ y0 ≤ y ∧ y < y1 := by
  obtain ⟨h0, h1, h2, h3⟩ := hb
  cases e : emp (max x0 u0) (max y0 v0) (min x1 u1) (min y1 v1)
  · obtain ⟨k0, k1, k2, k3⟩ := ia_f e
    omega
  · have k0 := ia_t e 0
    have k2 := ia_t e 2
    omega

set_option maxRecDepth 100000 in
set_option maxHeartbeats 8000000 in
theorem filled_walk {kd Xd0 Yd0 Xd1 Yd1 r0 r1 r2 r3 : Int} {Ad : Option Addr} {n cd : Nat} {p col : Nat → Int} (w : World) (hd : InI w Ad n cd p) (hcol : By col) :
    Calls Tryz.prog 8 #[vI kd Xd0 Yd0 Xd1 Yd1 Ad n cd, vR r0 r1 r2 r3, .agg #[.int .u8 (col 0), .int .u8 (col 1), .int .u8 (col 2), .int .u8 (col 3), .int .u8 (col 4), .int .u8 (col 5), .int .u8 (col 6), .int .u8 (col 7)]] w fun e w' => e = .returned (.bool true) ∧ w.grownBy w' none := by
  have HD := hid hd
  have HB := hid hcol
  clear hd hcol
  by_cases hn : n ≤ 2147483647
  · go_enter Tryz.func8, Tryz.ntmps8
    go_wp2_with fail
    refine (fits_y _ hn).mono ?_
    rintro e w1 ⟨rfl, hg⟩
    have hA1 : CellsAt _ w.heap.size [.int .i64 kd, .int .i64 Xd0, .int .i64 Yd0, .int .i64 Xd1, .int .i64 Yd1, .slice Ad n cd] := CellsAt.kept0 (fun i v hv => by (rcases i with _ | _ | _ | _ | _ | _ | i <;> (first | (cases hv; go_simp; done) | (simp at hv; done)))) hg
    have hR1 : CellsAt _ (w.heap.size + 1) [.int .i64 r0, .int .i64 r1, .int .i64 r2, .int .i64 r3] := CellsAt.kept0 (fun i v hv => by (rcases i with _ | _ | _ | _ | i <;> (first | (cases hv; go_simp; done) | (simp at hv; done)))) hg
    have hC1 : CellsAt _ (w.heap.size + 1 + 1) [.int .u8 (col 0), .int .u8 (col 1), .int .u8 (col 2), .int .u8 (col 3), .int .u8 (col 4), .int .u8 (col 5), .int .u8 (col 6), .int .u8 (col 7)] := CellsAt.kept0 (fun i v hv => by (rcases i with _ | _ | _ | _ | _ | _ | _ | _ | i <;> (first | (cases hv; go_simp; done) | (simp at hv; done)))) hg
    have HA1 := hid hA1
    have HR1 := hid hR1
    have HC1 := hid hC1
    have HG1 := hid (gb_trans (gb_alloc (gb_alloc (gb_alloc (gb_refl w none) _) _) _) hg)
    clear hA1 hR1 hC1 hg
    have r0' := HR1.out 0 _ rfl
    have r1' := HR1.out 1 _ rfl
    have r2' := HR1.out 2 _ rfl
    have r3' := HR1.out 3 _ rfl
    go_wp2_with fail
    refine (lrect_c r0 r1 r2 r3 _).mono ?_
    rintro e w2 ⟨b, q0, q1, q2, q3, rfl, hb, hg⟩
    have HG2 := hid (gb_trans HG1.out (gb_trans (a := w1) (by (repeat (first | exact gb_refl _ _ | assumption | refine gb_drew ?_ | refine gb_drewN ?_ _ | refine gb_alloc ?_ _ | refine gb_setCell ?_ (.inr (by simp <;> omega)) _))) hg))
    have HA2 := hid (HA1.out.kept0 (gb_trans (a := w1) (by (repeat (first | exact gb_refl _ _ | assumption | refine gb_drew ?_ | refine gb_drewN ?_ _ | refine gb_alloc ?_ _ | refine gb_setCell ?_ (.inr (by simp <;> omega)) _))) hg))
    have HR2 := hid (HR1.out.kept0 (gb_trans (a := w1) (by (repeat (first | exact gb_refl _ _ | assumption | refine gb_drew ?_ | refine gb_drewN ?_ _ | refine gb_alloc ?_ _ | refine gb_setCell ?_ (.inr (by simp <;> omega)) _))) hg))
    have HC2 := hid (HC1.out.kept0 (gb_trans (a := w1) (by (repeat (first | exact gb_refl _ _ | assumption | refine gb_drew ?_ | refine gb_drewN ?_ _ | refine gb_alloc ?_ _ | refine gb_setCell ?_ (.inr (by simp <;> omega)) _))) hg))
    have zz2 : w.heap.size + 1 + 1 < w2.heap.size := HC2.out.lt
    have zz3 : w.heap.size < w2.heap.size := HA2.out.lt
    have zz4 : w.heap.size + 1 < w2.heap.size := HR2.out.lt
    clear r0' r1' r2' r3' hg
    cases b
    · go_wp2_with fail
      go_ret
      exact ⟨rfl, gb_trans HG2.out (by (repeat (first | exact gb_refl _ _ | assumption | refine gb_drew ?_ | refine gb_drewN ?_ _ | refine gb_alloc ?_ _ | refine gb_setCell ?_ (.inr (by simp <;> omega)) _)))⟩
    obtain ⟨hr, rfl, rfl, rfl, rfl⟩ := hb rfl
    have HNR := hid hr
    clear hr hb
    have a0 := HA2.out 0 _ rfl
    have a1 := HA2.out 1 _ rfl
    have a2 := HA2.out 2 _ rfl
    have a3 := HA2.out 3 _ rfl
    have a4 := HA2.out 4 _ rfl
    have a5 := HA2.out 5 _ rfl
    go_wp2_with fail
    refine (target_c _ (HD.out.1.kept0 (gb_trans HG2.out (by (repeat (first | exact gb_refl _ _ | assumption | refine gb_drew ?_ | refine gb_drewN ?_ _ | refine gb_alloc ?_ _ | refine gb_setCell ?_ (.inr (by simp <;> omega)) _))))) HD.out.2.1 hn HD.out.2.2.2.1 HD.out.2.2.2.2).mono ?_
    rintro e w3 ⟨b, rfl, hb, hg⟩
    have hh3 := gb_trans (a := w2) (by (repeat (first | exact gb_refl _ _ | assumption | refine gb_drew ?_ | refine gb_drewN ?_ _ | refine gb_alloc ?_ _ | refine gb_setCell ?_ (.inr (by simp <;> omega)) _))) hg
    have HG3 := hid (gb_trans HG2.out hh3)
    have HA3 := hid (HA2.out.kept0 hh3)
    have HC3 := hid (HC2.out.kept0 hh3)
    have HR3 := hid (HR2.out.kept0 hh3)
    have hS3 : CellsAt w3 (w2.heap.size + 1) [.int .i64 6, .int .i64 0, .int .i64 0, .int .i64 0, .int .i64 0, .slice (some ⟨w.heap.size + 1 + 1, 0, none⟩) 8 8] := CellsAt.kept0 (fun i v hv => by (rcases i with _ | _ | _ | _ | _ | _ | i <;> (first | (cases hv; go_simp; done) | (simp at hv; done)))) hg
    have hT3 : CellsAt w3 w2.heap.size [.int .i64 q0, .int .i64 q1, .int .i64 q2, .int .i64 q3] := CellsAt.kept0 (fun i v hv => by (rcases i with _ | _ | _ | _ | i <;> (first | (cases hv; go_simp; done) | (simp at hv; done)))) hg
    have HS3 := hid hS3
    have HT3 := hid hT3
    clear hS3 hT3 hh3 hg a0 a1 a2 a3 a4 a5 zz2 zz3 zz4
    cases b
    · go_wp2_with fail
      go_ret
      exact ⟨rfl, gb_trans HG3.out (by (repeat (first | exact gb_refl _ _ | assumption | refine gb_drew ?_ | refine gb_drewN ?_ _ | refine gb_alloc ?_ _ | refine gb_setCell ?_ (.inr (by simp <;> omega)) _)))⟩
    obtain ⟨kk, rfl, hkk, hv⟩ := hb rfl
    have HV := hid hv
    have HK := hid hkk
    clear hb hv hkk
    have s0 := HS3.out 0 _ rfl
    have s1 := HS3.out 1 _ rfl
    have s2 := HS3.out 2 _ rfl
    have s3 := HS3.out 3 _ rfl
    have s4 := HS3.out 4 _ rfl
    have s5 := HS3.out 5 _ rfl
    have hrd : Rd w3 (some ⟨w.heap.size + 1 + 1, 0, none⟩) 8 col := CellsAt.rd (fun i hi => HC3.out i _ (by
      have : i = 0 ∨ i = 1 ∨ i = 2 ∨ i = 3 ∨ i = 4 ∨ i = 5 ∨ i = 6 ∨ i = 7 := by omega
      rcases this with rfl | rfl | rfl | rfl | rfl | rfl | rfl | rfl <;> rfl))
    have HRd := hid hrd
    clear hrd
    go_wp2_with fail
    refine (valid_c _ (HRd.out.kept0 (by (repeat (first | exact gb_refl _ _ | assumption | refine gb_drew ?_ | refine gb_drewN ?_ _ | refine gb_alloc ?_ _ | refine gb_setCell ?_ (.inr (by simp <;> omega)) _)))) HB.out (by omega) (by omega) (by omega)).mono ?_
    rintro e w4 ⟨b, rfl, hb, hg⟩
    have hh4 := gb_trans (a := w3) (by (repeat (first | exact gb_refl _ _ | assumption | refine gb_drew ?_ | refine gb_drewN ?_ _ | refine gb_alloc ?_ _ | refine gb_setCell ?_ (.inr (by simp <;> omega)) _))) hg
    have HG4 := hid (gb_trans HG3.out hh4)
    have HA4 := hid (HA3.out.kept0 hh4)
    have HC4 := hid (HC3.out.kept0 hh4)
    have HR4 := hid (HR3.out.kept0 hh4)
    have HS4 := hid (HS3.out.kept0 hh4)
    have HT4 := hid (HT3.out.kept0 hh4)
    clear hh4 hg s0 s1 s2 s3 s4 s5
    cases b
    · go_wp2_with fail
      go_ret
      exact ⟨rfl, gb_trans HG4.out (by (repeat (first | exact gb_refl _ _ | assumption | refine gb_drew ?_ | refine gb_drewN ?_ _ | refine gb_alloc ?_ _ | refine gb_setCell ?_ (.inr (by simp <;> omega)) _)))⟩
    have HU : Hid (Pm 6 col) := hid (by
      obtain ⟨k', e, hv⟩ := hb rfl
      have e' : k' = 6 := by omega
      subst e'
      rcases hv with ⟨h, -⟩ | ⟨-, -, hm⟩
      · omega
      · have := hm 0 (by omega)
        unfold wd at this
        simp only [Nat.mul_zero, Nat.zero_add] at this
        intro i hi
        have hi' : i = 0 ∨ i = 1 ∨ i = 2 := by omega
        rcases hi' with rfl | rfl | rfl
        · exact this.1
        · exact this.2.1
        · exact this.2.2)
    clear hb
    obtain ⟨dh, dw, GD, gx, gy, gm, gw, gh, v1, v2, v3, v4⟩ := vk_geo (by have := HK.out; omega) HV.out
    have HGD := hid (And.intro GD (And.intro gx (And.intro gy (And.intro gm (And.intro gw (And.intro gh (And.intro v1 (And.intro v2 (And.intro v3 v4)))))))))
    clear GD gx gy gm gw gh v1 v2 v3 v4
    have a0 := HA4.out 0 _ rfl
    have a1 := HA4.out 1 _ rfl
    have a2 := HA4.out 2 _ rfl
    have a3 := HA4.out 3 _ rfl
    have a4 := HA4.out 4 _ rfl
    have a5 := HA4.out 5 _ rfl
    have s0 := HS4.out 0 _ rfl
    have s1 := HS4.out 1 _ rfl
    have s2 := HS4.out 2 _ rfl
    have s3 := HS4.out 3 _ rfl
    have s4 := HS4.out 4 _ rfl
    have s5 := HS4.out 5 _ rfl
    have r0' := HR4.out 0 _ rfl
    have r1' := HR4.out 1 _ rfl
    have r2' := HR4.out 2 _ rfl
    have r3' := HR4.out 3 _ rfl
    go_wp2_with fail
    refine (idraw_of (q := resB kk dw (In0 q0 q1 q2 q3 0 0 Xd0 Yd0 (-1000000000) (-1000000000) 2000000000 2000000000) (fun r c => px0 kk 6 1 (toP dw (sz kk) p r c) (srcAt 6 2000000000 col q0 q1 0 0 Xd0 Yd0 (-1000000000) (-1000000000) r c)) p) (kd := kk) (ks := 6) (by have := HK.out; omega)
      (HD.out.1.kept0 (gb_trans HG4.out (by (repeat (first | exact gb_refl _ _ | assumption | refine gb_drew ?_ | refine gb_drewN ?_ _ | refine gb_alloc ?_ _ | refine gb_setCell ?_ (.inr (by simp <;> omega)) _))))) (CellsAt.rd (n := 8) (f := col) (fun i hi => (HC4.out.kept0 (by (repeat (first | exact gb_refl _ _ | assumption | refine gb_drew ?_ | refine gb_drewN ?_ _ | refine gb_alloc ?_ _ | refine gb_setCell ?_ (.inr (by simp <;> omega)) _)))) i _ (by
        have : i = 0 ∨ i = 1 ∨ i = 2 ∨ i = 3 ∨ i = 4 ∨ i = 5 ∨ i = 6 ∨ i = 7 := by omega
        rcases this with rfl | rfl | rfl | rfl | rfl | rfl | rfl | rfl <;> rfl)))
      (vk_dat (by have := HK.out; omega) HV.out HD.out.2.1 hn) (sx0 := -1000000000) (sy0 := -1000000000) (sx1 := 1000000000) (sy1 := 1000000000) ⟨HB.out, by omega, by omega, fun _ => rfl, by unfold sm; omega, by unfold sm; omega, rfl, rfl, rfl, rfl⟩
      (fun w' B B' c c' b b' A A' td ts h1 h2 h3 => mdm_f HK.out h1 h2 HGD.out.1 (.inl ⟨rfl, rfl, rfl, rfl, rfl, rfl, rfl, rfl⟩) HD.out.2.1 HB.out HU.out h3 (by have := HNR.out.1; unfold nr at this; unfold sm; omega) (by have := HNR.out.2.1; unfold nr at this; unfold sm; omega) (by unfold sm; omega) (by unfold sm; omega) (by have := HNR.out.1; unfold nr at this; unfold sm; omega) (by have := HNR.out.2.1; unfold nr at this; unfold sm; omega))).mono ?_
    rintro e w5 ⟨A5, c5, rfl, ho5, hg⟩
    have hh5 := gb_trans (a := w4) (by (repeat (first | exact gb_refl _ _ | assumption | refine gb_drew ?_ | refine gb_drewN ?_ _ | refine gb_alloc ?_ _ | refine gb_setCell ?_ (.inr (by simp <;> omega)) _))) hg
    have HG5 := hid (gb_trans HG4.out hh5)
    have HA5 := hid (HA4.out.kept0 hh5)
    have HC5 := hid (HC4.out.kept0 hh5)
    have HT5 := hid (HT4.out.kept0 hh5)
    have HO5 := hid ho5
    clear hh5 hg ho5 a0 a1 a2 a3 a4 a5 s0 s1 s2 s3 s4 s5 r0' r1' r2' r3'
    have a0 := HA5.out 0 _ rfl
    have a1 := HA5.out 1 _ rfl
    have a2 := HA5.out 2 _ rfl
    have a3 := HA5.out 3 _ rfl
    have a4 := HA5.out 4 _ rfl
    have a5 := HA5.out 5 _ rfl
    have k0 := HC5.out 0 _ rfl
    have k2 := HC5.out 2 _ rfl
    have k4 := HC5.out 4 _ rfl
    have k6 := HC5.out 6 _ rfl
    have hk3 := HK.out
    rcases hk3 with rfl | rfl | rfl

    · go_upto_region 16 with fail
      obtain ⟨w6, hw6⟩ : ∃ w6 : World, w6 = (w5.alloc (.cells #[.int .u8 (col 0), .int .u8 (col 2), .int .u8 (col 4), .int .u8 (col 6)] 5)) := ⟨_, rfl⟩
      rw [← hw6]
      have hg6 : w5.grownBy w6 none := by rw [hw6]; exact (by (repeat (first | exact gb_refl _ _ | assumption | refine gb_drew ?_ | refine gb_drewN ?_ _ | refine gb_alloc ?_ _ | refine gb_setCell ?_ (.inr (by simp <;> omega)) _)))
      have hW6 : CellsAt w6 w5.heap.size [.int .u8 (col 0), .int .u8 (col 2), .int .u8 (col 4), .int .u8 (col 6)] := fun i v hv => by (rw [hw6]; rcases i with _ | _ | _ | _ | i <;> (first | (cases hv; go_simp; done) | (simp at hv; done)))
      have HW6 := hid hW6
      have HA6 := hid (HA5.out.kept0 hg6)
      have HT6 := hid (HT5.out.kept0 hg6)
      have HG6 := hid (gb_trans HG5.out hg6)
      have HO6 := hid (HO5.out.kept0 hg6)
      clear hg6 hW6 hw6 a0 a1 a2 a3 a4 a5 k0 k2 k4 k6
      obtain ⟨b0, hb0⟩ : ∃ b0, ia 0 q0 q1 q2 q3 Xd0 Yd0 Xd1 Yd1 = b0 := ⟨_, rfl⟩
      obtain ⟨b1, hb1⟩ : ∃ b1, ia 1 q0 q1 q2 q3 Xd0 Yd0 Xd1 Yd1 = b1 := ⟨_, rfl⟩
      obtain ⟨b2, hb2⟩ : ∃ b2, ia 2 q0 q1 q2 q3 Xd0 Yd0 Xd1 Yd1 = b2 := ⟨_, rfl⟩
      obtain ⟨b3, hb3⟩ : ∃ b3, ia 3 q0 q1 q2 q3 Xd0 Yd0 Xd1 Yd1 = b3 := ⟨_, rfl⟩
      have Hb := hid (And.intro hb0 (And.intro hb1 (And.intro hb2 hb3)))
      clear hb0 hb1 hb2 hb3
      refine wp_region_inv (JV w6 [some (vR q0 q1 q2 q3), some (vI 0 Xd0 Yd0 Xd1 Yd1 Ad n cd), some (vR Xd0 Yd0 Xd1 Yd1), some (vR b0 b1 b2 b3), none, none] [(4, 5, [.int .i64 b0, .int .i64 b1, .int .i64 b2, .int .i64 b3])]) (fun _ => undef) (by kernel_rfl) (by kernel_rfl) [(0, 68), (1, 69), (2, 70), (3, 71), (4, 12)] (by kernel_rfl) (JV.start (by (repeat (first | exact gb_refl _ _ | assumption | refine gb_drew ?_ | refine gb_drewN ?_ _ | refine gb_alloc ?_ _ | refine gb_setCell ?_ (.inr (by simp <;> omega)) _)))) ?_ ?_
      · refine Steps'.cons [] (by kernel_rfl) ?_ (Steps'.cons [] (by kernel_rfl) ?_ (Steps'.cons [(1, 69)] (by kernel_rfl) ?_ (Steps'.cons [(0, 68), (2, 70)] (by kernel_rfl) ?_ (Steps'.cons [] (by kernel_rfl) ?_ (Steps'.cons [(3, 71), (4, 12)] (by kernel_rfl) ?_ Steps'.nil)))))
        · intro l t w7 hJ hl hd bb hbb K hK
          have f0 := (HT6.out.kept0 hJ.gb) 0 _ rfl
          have f1 := (HT6.out.kept0 hJ.gb) 1 _ rfl
          have f2 := (HT6.out.kept0 hJ.gb) 2 _ rfl
          have f3 := (HT6.out.kept0 hJ.gb) 3 _ rfl
          simp only [puts, Act.put, List.setIfInBounds_toArray, List.set_cons_zero, List.set_cons_succ] at hbb
          subst hbb
          go_simp
          exact hK.out _ _ (hJ.pure (gb_refl _ _) rfl rfl)
        · intro l t w7 hJ hl hd bb hbb K hK
          have f0 := (HA6.out.kept0 hJ.gb) 0 _ rfl
          have f1 := (HA6.out.kept0 hJ.gb) 1 _ rfl
          have f2 := (HA6.out.kept0 hJ.gb) 2 _ rfl
          have f3 := (HA6.out.kept0 hJ.gb) 3 _ rfl
          have f4 := (HA6.out.kept0 hJ.gb) 4 _ rfl
          have f5 := (HA6.out.kept0 hJ.gb) 5 _ rfl
          simp only [puts, Act.put, List.setIfInBounds_toArray, List.set_cons_zero, List.set_cons_succ] at hbb
          subst hbb
          go_simp
          exact hK.out _ _ (hJ.pure (gb_refl _ _) rfl rfl)
        · intro l t w7 hJ hl hd bb hbb K hK
          have e1 := hJ.val 1 _ rfl (hd 1 (by kernel_rfl))
          simp only [puts, Act.put, List.setIfInBounds_toArray, List.set_cons_zero, List.set_cons_succ] at hbb
          rw [e1] at hbb
          subst hbb
          go_simp
          refine (sbounds_c 0 Xd0 Yd0 Xd1 Yd1 Ad n cd _).mono ?_
          rintro e w8 ⟨he, hg⟩
          have he : e = .returned (vR Xd0 Yd0 Xd1 Yd1) := he
          subst he
          exact hK.out _ _ (hJ.pure hg rfl rfl)
        · intro l t w7 hJ hl hd bb hbb K hK
          have e0 := hJ.val 0 _ rfl (hd 0 (by kernel_rfl))
          have e2 := hJ.val 2 _ rfl (hd 2 (by kernel_rfl))
          simp only [puts, Act.put, List.setIfInBounds_toArray, List.set_cons_zero, List.set_cons_succ] at hbb
          rw [e0] at hbb
          rw [e2] at hbb
          subst hbb
          go_simp
          refine (scommon_c q0 q1 q2 q3 Xd0 Yd0 Xd1 Yd1 _).mono ?_
          rintro e w8 ⟨rfl, hg⟩
          rw [isec_ia, Hb.out.1, Hb.out.2.1, Hb.out.2.2.1, Hb.out.2.2.2]
          exact hK.out _ _ (hJ.pure hg rfl rfl)
        · intro l t w7 hJ hl hd bb hbb K hK
          simp only [puts, Act.put, List.setIfInBounds_toArray, List.set_cons_zero, List.set_cons_succ] at hbb
          subst hbb
          go_simp
          exact hK.out _ _ (hJ.alloc (vsOK1 rfl) (C := #[.int .i64 0, .int .i64 0, .int .i64 0, .int .i64 0]) (s := 5) (vals := [.int .i64 b0, .int .i64 b1, .int .i64 b2, .int .i64 b3]) (by simp) rfl hl rfl rfl)
        · intro l t w7 hJ hl hd bb hbb K hK
          obtain ⟨g, eg, -, -, hc⟩ := hJ.open (a := 4) (s := 5) (vals := [.int .i64 b0, .int .i64 b1, .int .i64 b2, .int .i64 b3]) (by simp) (hd 4 (by kernel_rfl))
          obtain ⟨⟨u0, c0⟩, z0⟩ := hc 0 (by simp)
          obtain ⟨⟨u1, c1⟩, z1⟩ := hc 1 (by simp)
          obtain ⟨⟨u2, c2⟩, z2⟩ := hc 2 (by simp)
          obtain ⟨⟨u3, c3⟩, z3⟩ := hc 3 (by simp)
          have e3 := hJ.val 3 _ rfl (hd 3 (by kernel_rfl))
          simp only [puts, Act.put, List.setIfInBounds_toArray, List.set_cons_zero, List.set_cons_succ] at hbb
          rw [e3] at hbb
          rw [eg] at hbb
          subst hbb
          go_simp
          obtain ⟨y1, y2, y3⟩ := st4 c0 c1 c2 c3
          exact hK.out undef _ (hJ.store (u := undef) (vsOK1 rfl) (a := 4) (vals := [.int .i64 b0, .int .i64 b1, .int .i64 b2, .int .i64 b3]) (by simp) rfl (hd 4 (by kernel_rfl)) eg y1 y2 y3)
      intro l t wc hJ hl
      obtain ⟨g, e4, -, -, hgc⟩ := hJ.var (a := 4) (s := 5) (vals := [.int .i64 b0, .int .i64 b1, .int .i64 b2, .int .i64 b3]) (by simp) (hl 4 (by decide)) (hl 5 (by decide))
      have hgw := hJ.gb
      have HCg : Hid (CellsAt wc g [.int .i64 b0, .int .i64 b1, .int .i64 b2, .int .i64 b3]) := hid hgc
      have HAc := hid (HA6.out.kept0 hgw)
      have HWc := hid (HW6.out.kept0 hgw)
      have HGc := hid (gb_trans HG6.out hgw)
      have HOc := hid (HO6.out.kept0 hgw)
      clear hJ hl hgc hgw
      simp only [puts, Act.put, List.setIfInBounds_toArray, List.set_cons_zero, List.set_cons_succ]
      rw [e4]
      clear e4
      have a0 := HAc.out 0 _ rfl
      have a1 := HAc.out 1 _ rfl
      have a2 := HAc.out 2 _ rfl
      have a3 := HAc.out 3 _ rfl
      have a4 := HAc.out 4 _ rfl
      go_wp2_with fail
      refine (size_c 0 (by omega) _).mono ?_
      rintro e wz ⟨he, rfl⟩
      have he : e = .returned (.int .i64 4) := he
      subst he
      go_wp2_with fail
      clear a0 a1 a2 a3 a4
      have a1 := HAc.out 1 _ rfl
      have a2 := HAc.out 2 _ rfl
      have a3 := HAc.out 3 _ rfl
      have a4 := HAc.out 4 _ rfl
      have zA := World.block_lt_of_cell? wc _ a1
      have zC := HCg.out.lt
      go_loopw [15, 14] (fun u v wr => ∃ (j i : Nat), j ≤ dh ∧ i = (j * dw) * 4 ∧ u = .int .i64 (Yd0 + (j : Int)) ∧ v = .int .i64 (i : Int) ∧ wc.grownBy wr none) (fun u _ _ => (Yd1 - intOf u).toNat)
      case atStart => exact ⟨0, 0, by omega, by omega, by first | rfl | (congr 1; omega), rfl, gb_refl _ _⟩
      case round =>
      obtain ⟨j, i, hj, hi, rfl, rfl, hgr⟩ := hrel
      obtain ⟨-, gx, gy, gm, gw, gh, v1, v2, v3, v4⟩ := HGD.out
      have HR := hid hgr
      have a1r := (gb_cell0 hgr zA).trans a1
      have a2r := (gb_cell0 hgr (p := ⟨w.heap.size, 2, none⟩) zA).trans a2
      have a3r := (gb_cell0 hgr (p := ⟨w.heap.size, 3, none⟩) zA).trans a3
      have a4r := (gb_cell0 hgr (p := ⟨w.heap.size, 4, none⟩) zA).trans a4
      have hib : i ≤ 200000 := by rw [hi]; have := Nat.mul_le_mul hj (Nat.le_refl dw); have := Nat.mul_le_mul gh gw; omega
      have Hi := hid hi
      clear hi hgr gm
      by_cases hlt : j < dh
      · have t1 : Yd0 + (j : Int) < Yd1 := by omega
        clear gx gy
        go_wp2_with fail
        obtain ⟨wo, hwo⟩ : ∃ wo : World, wo = wr := ⟨_, rfl⟩
        go_loopw [16, 14] (fun u v wr => ∃ (c i : Nat), c ≤ dw ∧ i = (j * dw + c) * 4 ∧ u = .int .i64 (Xd0 + (c : Int)) ∧ v = .int .i64 (i : Int) ∧ wc.grownBy wr none) (fun u _ _ => (Xd1 - intOf u).toNat)
        case atStart => exact ⟨0, i, by omega, Hi.out, by first | rfl | (congr 1; omega), rfl, HR.out⟩
        case round =>
        clear hwo wo a1r a2r a3r a4r HR
        obtain ⟨c, i', hc, hi', rfl, rfl, hgr⟩ := hrel
        have HR := hid hgr
        have a1r := (gb_cell0 hgr zA).trans a1
        have a2r := (gb_cell0 hgr (p := ⟨w.heap.size, 2, none⟩) zA).trans a2
        have a3r := (gb_cell0 hgr (p := ⟨w.heap.size, 3, none⟩) zA).trans a3
        have a4r := (gb_cell0 hgr (p := ⟨w.heap.size, 4, none⟩) zA).trans a4
        have HCr := hid (HCg.out.kept0 hgr)
        obtain ⟨-, gx, gy, gm, gw, gh, v1, v2, v3, v4⟩ := HGD.out
        have hib2 : i' ≤ 200000 := by rw [hi']; have := Nat.mul_le_mul hj (Nat.le_refl dw); have := Nat.mul_le_mul gh gw; omega
        have Hi2 := hid hi'
        by_cases hlc : c < dw
        · have t2 : Xd0 + (c : Int) < Xd1 := by omega
          have hfit : i' + 4 ≤ n := by
            have h1 := row_fits (wd := dw) (k := 4) (r := j) (m := c * 4 + 4) hlt (by omega)
            have h2 : (j * dw + c) * 4 = j * (dw * 4) + c * 4 := by rw [Nat.add_mul, Nat.mul_assoc]
            have h3 : n = dh * (dw * 4) := gm
            rw [hi', h2, h3]; omega
          obtain ⟨g', hA, hnc, hcc5, hcell⟩ := own_at (HOc.out.kept0 hgr) (by omega)
          subst hA
          have Hcell := hid hcell
          have s1 : IntKind.i64.wrap ((i' : Int) + 4) = (i' : Int) + 4 := IntWalk.i64_in _ (by omega)
          have s2 : (0 : Int) ≤ (i' : Int) + 4 := by omega
          have s3 : (i' : Int) + 4 ≤ (c5 : Int) := by omega
          have s4 : ((i' : Int) + 4).toNat = i' + 4 := by omega
          have s6 : ¬ (c5 = i') := by omega
          have s7 : (i' : Int) ≤ (i' : Int) + 4 := by omega
          have HGX := hid (And.intro gx hlc)
          clear hi' hgr gm hcell gy gx
          by_cases hin : b0 ≤ Xd0 + (c : Int) ∧ Xd0 + (c : Int) < b2 ∧ b1 ≤ Yd0 + (j : Int) ∧ Yd0 + (j : Int) < b3
          · have Hin := hid hin
            obtain ⟨Z, hZ⟩ : ∃ Z, strOfNums (byL 4 (cut1 0 col)) = Z := ⟨_, rfl⟩
            have HZ := hid hZ
            have hsame : ∀ ch, ch < 4 → wr.cell? ⟨g', i' + ch, none⟩ = some (.int .u8 (cut1 0 col ch)) := fun ch hch => by
              rw [Hcell.out (i' + ch) (by omega), Hi2.out]
              have hI : In0 q0 q1 q2 q3 0 0 Xd0 Yd0 (-1000000000) (-1000000000) 2000000000 2000000000 j c := by
                have := ia_in Hb.out hin
                have h2 := HNR.out
                have h3 := HGD.out.2
                unfold nr at h2
                unfold In0
                omega
              have e := res_atk (k := 0) (dw := dw) (r := j) (c := c) (ch := ch) (F := fun r c => px0 0 6 1 (toP dw (sz 0) p r c) (srcAt 6 2000000000 col q0 q1 0 0 Xd0 Yd0 (-1000000000) (-1000000000) r c)) (p := p) hlc hch hI
              have e2 : srcAt 6 2000000000 col q0 q1 0 0 Xd0 Yd0 (-1000000000) (-1000000000) j c = col := by unfold srcAt srcP; rw [if_pos rfl]
              try dsimp only at e
              rw [e2, one_px (by omega) HB.out] at e
              exact congrArg (fun x => some (Value.int .u8 x)) e
            have hwant : ∀ ch, ch < 4 → wr.cell? ⟨w5.heap.size, ch, none⟩ = some (.int .u8 (cut1 0 col ch)) := fun ch hch => (HWc.out.kept0 HR.out) ch _ (by
              have : ch = 0 ∨ ch = 1 ∨ ch = 2 ∨ ch = 3 := by omega
              rcases this with rfl | rfl | rfl | rfl <;> rfl)
            have Hsame := hid hsame
            have Hwant := hid hwant
            clear hsame hwant hin hZ
            go_wp2_with fail
            refine wp_region_invg (JV wr [some (vR b0 b1 b2 b3), some (.int .i64 (Xd0 + (c : Int))), some (.int .i64 (Yd0 + (j : Int))), some (.bool true), some (.bool true), some ((Value.slice (some ⟨g', 0, none⟩) n c5)), some ((.int .i64 (i' : Int))), some ((.int .i64 (i' : Int))), some (.int .i64 4), some (.int .i64 ((i' : Int) + 4)), some ((Value.slice (some ⟨g', i', none⟩) 4 (c5 - i'))), some (.string Z), some ((Value.slice (some ⟨w5.heap.size, 0, none⟩) 4 4)), some (.string Z), some (.bool false), some (.bool false)] []) (fun _ => undef) (by kernel_rfl) (by kernel_rfl) (by kernel_rfl) [(0, 91), (1, 92), (2, 93), (3, 94), (4, 95), (5, 96), (6, 97), (7, 98), (8, 99), (9, 100), (10, 101), (11, 102), (12, 103), (13, 104), (14, 105), (15, 106)] (by kernel_rfl) (JV.start (by (repeat (first | exact gb_refl _ _ | assumption | refine gb_drew ?_ | refine gb_drewN ?_ _ | refine gb_alloc ?_ _ | refine gb_setCell ?_ (.inr (by simp <;> omega)) _)))) ?_ ?_
            · refine StepsG.cons [] (by kernel_rfl) ?_ (StepsG.cons [] (by kernel_rfl) ?_ (StepsG.cons [] (by kernel_rfl) ?_ (StepsG.cons [(0, 91), (1, 92), (2, 93)] (by kernel_rfl) ?_ (StepsG.cons [(3, 94)] (by kernel_rfl) ?_ (StepsG.cons [] (by kernel_rfl) ?_ (StepsG.cons [] (by kernel_rfl) ?_ (StepsG.cons [] (by kernel_rfl) ?_ (StepsG.cons [] (by kernel_rfl) ?_ (StepsG.cons [(7, 98), (8, 99)] (by kernel_rfl) ?_ (StepsG.cons [(5, 96), (6, 97), (9, 100)] (by kernel_rfl) ?_ (StepsG.cons [(10, 101)] (by kernel_rfl) ?_ (StepsG.cons [] (by kernel_rfl) ?_ (StepsG.cons [(12, 103)] (by kernel_rfl) ?_ (StepsG.cons [(11, 102), (13, 104)] (by kernel_rfl) ?_ (StepsG.cons [(4, 95), (14, 105)] (by kernel_rfl) ?_ (StepsG.nil))))))))))))))))
              · intro l t w7 hJ hl hd
                refine ⟨fun hw bb hbb K hK => ?_, fun hw => ?_⟩
                · clear hw
                  have x0 := (HCr.out.kept0 hJ.gb) 0 _ rfl
                  have x1 := (HCr.out.kept0 hJ.gb) 1 _ rfl
                  have x2 := (HCr.out.kept0 hJ.gb) 2 _ rfl
                  have x3 := (HCr.out.kept0 hJ.gb) 3 _ rfl
                  simp only [puts, Act.put, List.setIfInBounds_toArray, List.set_cons_zero, List.set_cons_succ] at hbb
                  subst hbb
                  go_simp
                  exact hK.out _ _ (hJ.pure (gb_refl _ _) rfl rfl)
                · exact Bool.noConfusion (show true = false from hw)
              · intro l t w7 hJ hl hd
                refine ⟨fun hw bb hbb K hK => ?_, fun hw => ?_⟩
                · clear hw
                  simp only [puts, Act.put, List.setIfInBounds_toArray, List.set_cons_zero, List.set_cons_succ] at hbb
                  subst hbb
                  go_simp
                  exact hK.out _ _ (hJ.pure (gb_refl _ _) rfl rfl)
                · exact Bool.noConfusion (show true = false from hw)
              · intro l t w7 hJ hl hd
                refine ⟨fun hw bb hbb K hK => ?_, fun hw => ?_⟩
                · clear hw
                  simp only [puts, Act.put, List.setIfInBounds_toArray, List.set_cons_zero, List.set_cons_succ] at hbb
                  subst hbb
                  go_simp
                  exact hK.out _ _ (hJ.pure (gb_refl _ _) rfl rfl)
                · exact Bool.noConfusion (show true = false from hw)
              · intro l t w7 hJ hl hd
                refine ⟨fun hw bb hbb K hK => ?_, fun hw => ?_⟩
                · clear hw
                  have f0 := hJ.val 0 _ rfl (hd 0 (by kernel_rfl))
                  have f1 := hJ.val 1 _ rfl (hd 1 (by kernel_rfl))
                  have f2 := hJ.val 2 _ rfl (hd 2 (by kernel_rfl))
                  simp only [puts, Act.put, List.setIfInBounds_toArray, List.set_cons_zero, List.set_cons_succ] at hbb
                  rw [f0] at hbb
                  rw [f1] at hbb
                  rw [f2] at hbb
                  subst hbb
                  go_simp
                  refine (shas_y b0 b1 b2 b3 _ _ _ Hin.out.1 Hin.out.2.1 Hin.out.2.2.1 Hin.out.2.2.2).mono ?_
                  rintro e w8 ⟨rfl, hg⟩
                  exact hK.out _ _ (hJ.pure hg rfl rfl)
                · exact Bool.noConfusion (show true = false from hw)
              · intro l t w7 hJ hl hd
                refine ⟨fun hw bb hbb K hK => ?_, fun hw => ?_⟩
                · clear hw
                  have f3 := hJ.val 3 _ rfl (hd 3 (by kernel_rfl))
                  simp only [puts, Act.put, List.setIfInBounds_toArray, List.set_cons_zero, List.set_cons_succ] at hbb
                  rw [f3] at hbb
                  subst hbb
                  go_simp
                  exact hK.out _ _ (hJ.pure (gb_refl _ _) rfl rfl)
                · exact Bool.noConfusion (show true = false from hw)
              · intro l t w7 hJ hl hd
                have e4 := hJ.val 4 _ rfl (hd 4 (by kernel_rfl))
                refine ⟨fun hw bb hbb K hK => ?_, fun hw => ?_⟩
                · clear hw
                  simp only [puts, Act.put, List.setIfInBounds_toArray, List.set_cons_zero, List.set_cons_succ] at hbb
                  subst hbb
                  go_simp
                  exact hK.out _ _ (hJ.pure (gb_refl _ _) rfl rfl)
                · unfold wantL at hw
                  simp only [e4] at hw
                  exact absurd hw (by decide)
              · intro l t w7 hJ hl hd
                have e4 := hJ.val 4 _ rfl (hd 4 (by kernel_rfl))
                refine ⟨fun hw bb hbb K hK => ?_, fun hw => ?_⟩
                · clear hw
                  simp only [puts, Act.put, List.setIfInBounds_toArray, List.set_cons_zero, List.set_cons_succ] at hbb
                  subst hbb
                  go_simp
                  exact hK.out _ _ (hJ.pure (gb_refl _ _) rfl rfl)
                · unfold wantL at hw
                  simp only [e4] at hw
                  exact absurd hw (by decide)
              · intro l t w7 hJ hl hd
                have e4 := hJ.val 4 _ rfl (hd 4 (by kernel_rfl))
                refine ⟨fun hw bb hbb K hK => ?_, fun hw => ?_⟩
                · clear hw
                  simp only [puts, Act.put, List.setIfInBounds_toArray, List.set_cons_zero, List.set_cons_succ] at hbb
                  subst hbb
                  go_simp
                  exact hK.out _ _ (hJ.pure (gb_refl _ _) rfl rfl)
                · unfold wantL at hw
                  simp only [e4] at hw
                  exact absurd hw (by decide)
              · intro l t w7 hJ hl hd
                have e4 := hJ.val 4 _ rfl (hd 4 (by kernel_rfl))
                refine ⟨fun hw bb hbb K hK => ?_, fun hw => ?_⟩
                · clear hw
                  simp only [puts, Act.put, List.setIfInBounds_toArray, List.set_cons_zero, List.set_cons_succ] at hbb
                  subst hbb
                  go_simp
                  exact hK.out _ _ (hJ.pure (gb_refl _ _) rfl rfl)
                · unfold wantL at hw
                  simp only [e4] at hw
                  exact absurd hw (by decide)
              · intro l t w7 hJ hl hd
                have e4 := hJ.val 4 _ rfl (hd 4 (by kernel_rfl))
                refine ⟨fun hw bb hbb K hK => ?_, fun hw => ?_⟩
                · clear hw
                  have f7 := hJ.val 7 _ rfl (hd 7 (by kernel_rfl))
                  have f8 := hJ.val 8 _ rfl (hd 8 (by kernel_rfl))
                  simp only [puts, Act.put, List.setIfInBounds_toArray, List.set_cons_zero, List.set_cons_succ] at hbb
                  rw [f7] at hbb
                  rw [f8] at hbb
                  subst hbb
                  go_simp
                  exact hK.out _ _ (hJ.pure (gb_refl _ _) rfl rfl)
                · unfold wantL at hw
                  simp only [e4] at hw
                  exact absurd hw (by decide)
              · intro l t w7 hJ hl hd
                have e4 := hJ.val 4 _ rfl (hd 4 (by kernel_rfl))
                refine ⟨fun hw bb hbb K hK => ?_, fun hw => ?_⟩
                · clear hw
                  have f5 := hJ.val 5 _ rfl (hd 5 (by kernel_rfl))
                  have f6 := hJ.val 6 _ rfl (hd 6 (by kernel_rfl))
                  have f9 := hJ.val 9 _ rfl (hd 9 (by kernel_rfl))
                  simp only [puts, Act.put, List.setIfInBounds_toArray, List.set_cons_zero, List.set_cons_succ] at hbb
                  rw [f5] at hbb
                  rw [f6] at hbb
                  rw [f9] at hbb
                  subst hbb
                  go_simp
                  exact hK.out _ _ (hJ.pure (gb_refl _ _) rfl rfl)
                · unfold wantL at hw
                  simp only [e4] at hw
                  exact absurd hw (by decide)
              · intro l t w7 hJ hl hd
                have e4 := hJ.val 4 _ rfl (hd 4 (by kernel_rfl))
                refine ⟨fun hw bb hbb K hK => ?_, fun hw => ?_⟩
                · clear hw
                  have f10 := hJ.val 10 _ rfl (hd 10 (by kernel_rfl))
                  have z1 := convN (w := w7) (A := ⟨g', i', none⟩) (n := 4) (f := cut1 0 col) (c5 - i') (fun ch hch => by (have ad : (⟨g', i', none⟩ : Addr).add ch = ⟨g', i' + ch, none⟩ := by unfold Addr.add; by_cases h : ch = 0 <;> simp [h]); rw [ad]; exact (gb_cell0 hJ.gb (World.block_lt_of_cell? wr _ (Hsame.out ch hch))).trans (Hsame.out ch hch))
                  rw [HZ.out] at z1
                  simp only [puts, Act.put, List.setIfInBounds_toArray, List.set_cons_zero, List.set_cons_succ] at hbb
                  rw [f10] at hbb
                  subst hbb
                  go_simp
                  exact hK.out _ _ (hJ.pure (gb_refl _ _) rfl rfl)
                · unfold wantL at hw
                  simp only [e4] at hw
                  exact absurd hw (by decide)
              · intro l t w7 hJ hl hd
                have e4 := hJ.val 4 _ rfl (hd 4 (by kernel_rfl))
                refine ⟨fun hw bb hbb K hK => ?_, fun hw => ?_⟩
                · clear hw
                  simp only [puts, Act.put, List.setIfInBounds_toArray, List.set_cons_zero, List.set_cons_succ] at hbb
                  subst hbb
                  go_simp
                  exact hK.out _ _ (hJ.pure (gb_refl _ _) rfl rfl)
                · unfold wantL at hw
                  simp only [e4] at hw
                  exact absurd hw (by decide)
              · intro l t w7 hJ hl hd
                have e4 := hJ.val 4 _ rfl (hd 4 (by kernel_rfl))
                refine ⟨fun hw bb hbb K hK => ?_, fun hw => ?_⟩
                · clear hw
                  have f12 := hJ.val 12 _ rfl (hd 12 (by kernel_rfl))
                  have z1 := convN (w := w7) (A := ⟨w5.heap.size, 0, none⟩) (n := 4) (f := cut1 0 col) 4 (fun ch hch => by (have ad : (⟨w5.heap.size, 0, none⟩ : Addr).add ch = ⟨w5.heap.size, ch, none⟩ := by unfold Addr.add; by_cases h : ch = 0 <;> simp [h]); rw [ad]; exact (gb_cell0 hJ.gb (World.block_lt_of_cell? wr _ (Hwant.out ch hch))).trans (Hwant.out ch hch))
                  rw [HZ.out] at z1
                  simp only [puts, Act.put, List.setIfInBounds_toArray, List.set_cons_zero, List.set_cons_succ] at hbb
                  rw [f12] at hbb
                  subst hbb
                  go_simp
                  exact hK.out _ _ (hJ.pure (gb_refl _ _) rfl rfl)
                · unfold wantL at hw
                  simp only [e4] at hw
                  exact absurd hw (by decide)
              · intro l t w7 hJ hl hd
                have e4 := hJ.val 4 _ rfl (hd 4 (by kernel_rfl))
                refine ⟨fun hw bb hbb K hK => ?_, fun hw => ?_⟩
                · clear hw
                  have f11 := hJ.val 11 _ rfl (hd 11 (by kernel_rfl))
                  have f13 := hJ.val 13 _ rfl (hd 13 (by kernel_rfl))
                  simp only [puts, Act.put, List.setIfInBounds_toArray, List.set_cons_zero, List.set_cons_succ] at hbb
                  rw [f11] at hbb
                  rw [f13] at hbb
                  subst hbb
                  go_simp
                  exact hK.out _ _ (hJ.pure (gb_refl _ _) rfl rfl)
                · unfold wantL at hw
                  simp only [e4] at hw
                  exact absurd hw (by decide)
              · intro l t w7 hJ hl hd
                refine ⟨fun hw bb hbb K hK => ?_, fun hw => ?_⟩
                · clear hw
                  have f4 := hJ.val 4 _ rfl (hd 4 (by kernel_rfl))
                  have f14 := hJ.val 14 _ rfl (hd 14 (by kernel_rfl))
                  simp only [puts, Act.put, List.setIfInBounds_toArray, List.set_cons_zero, List.set_cons_succ] at hbb
                  rw [f4] at hbb
                  rw [f14] at hbb
                  subst hbb
                  go_simp
                  exact hK.out _ _ (hJ.pure (gb_refl _ _) rfl rfl)
                · exact Bool.noConfusion (show true = false from hw)
            intro l t w7 hJ hl
            have e15 := hJ.val 15 _ rfl (hl 15 (by decide))
            have HB7 := hid hJ.gb
            clear hJ hl
            simp only [puts, Act.put, List.setIfInBounds_toArray, List.set_cons_zero, List.set_cons_succ]
            rw [e15]
            clear e15
            go_wp2_with fail
            exact ⟨⟨c + 1, i' + 4, by omega, by have h := Hi2.out; rw [← Nat.add_assoc, Nat.add_mul (j * dw + c) 1]; omega, by first | rfl | (congr 1; push_cast; omega), by first | rfl | (congr 1; push_cast; omega), gb_trans HR.out HB7.out⟩, by have := HGX.out; simp [intOf]; omega⟩
          · have Hin := hid hin
            clear hin
            go_wp2_with fail
            refine wp_region_invg (JV wr [some (vR b0 b1 b2 b3), some (.int .i64 (Xd0 + (c : Int))), some (.int .i64 (Yd0 + (j : Int))), some (.bool false), some (.bool false), some (undef), some (undef), some (undef), some (undef), some (undef), some (undef), some (undef), some (undef), some (undef), some (undef), some (.bool false)] []) (fun _ => undef) (by kernel_rfl) (by kernel_rfl) (by kernel_rfl) [(0, 91), (1, 92), (2, 93), (3, 94), (4, 95), (5, 96), (6, 97), (7, 98), (8, 99), (9, 100), (10, 101), (11, 102), (12, 103), (13, 104), (14, 105), (15, 106)] (by kernel_rfl) (JV.start (by (repeat (first | exact gb_refl _ _ | assumption | refine gb_drew ?_ | refine gb_drewN ?_ _ | refine gb_alloc ?_ _ | refine gb_setCell ?_ (.inr (by simp <;> omega)) _)))) ?_ ?_
            · refine StepsG.cons [] (by kernel_rfl) ?_ (StepsG.cons [] (by kernel_rfl) ?_ (StepsG.cons [] (by kernel_rfl) ?_ (StepsG.cons [(0, 91), (1, 92), (2, 93)] (by kernel_rfl) ?_ (StepsG.cons [(3, 94)] (by kernel_rfl) ?_ (StepsG.cons [] (by kernel_rfl) ?_ (StepsG.cons [] (by kernel_rfl) ?_ (StepsG.cons [] (by kernel_rfl) ?_ (StepsG.cons [] (by kernel_rfl) ?_ (StepsG.cons [(7, 98), (8, 99)] (by kernel_rfl) ?_ (StepsG.cons [(5, 96), (6, 97), (9, 100)] (by kernel_rfl) ?_ (StepsG.cons [(10, 101)] (by kernel_rfl) ?_ (StepsG.cons [] (by kernel_rfl) ?_ (StepsG.cons [(12, 103)] (by kernel_rfl) ?_ (StepsG.cons [(11, 102), (13, 104)] (by kernel_rfl) ?_ (StepsG.cons [(4, 95), (14, 105)] (by kernel_rfl) ?_ (StepsG.nil))))))))))))))))
              · intro l t w7 hJ hl hd
                refine ⟨fun hw bb hbb K hK => ?_, fun hw => ?_⟩
                · clear hw
                  have x0 := (HCr.out.kept0 hJ.gb) 0 _ rfl
                  have x1 := (HCr.out.kept0 hJ.gb) 1 _ rfl
                  have x2 := (HCr.out.kept0 hJ.gb) 2 _ rfl
                  have x3 := (HCr.out.kept0 hJ.gb) 3 _ rfl
                  simp only [puts, Act.put, List.setIfInBounds_toArray, List.set_cons_zero, List.set_cons_succ] at hbb
                  subst hbb
                  go_simp
                  exact hK.out _ _ (hJ.pure (gb_refl _ _) rfl rfl)
                · exact Bool.noConfusion (show true = false from hw)
              · intro l t w7 hJ hl hd
                refine ⟨fun hw bb hbb K hK => ?_, fun hw => ?_⟩
                · clear hw
                  simp only [puts, Act.put, List.setIfInBounds_toArray, List.set_cons_zero, List.set_cons_succ] at hbb
                  subst hbb
                  go_simp
                  exact hK.out _ _ (hJ.pure (gb_refl _ _) rfl rfl)
                · exact Bool.noConfusion (show true = false from hw)
              · intro l t w7 hJ hl hd
                refine ⟨fun hw bb hbb K hK => ?_, fun hw => ?_⟩
                · clear hw
                  simp only [puts, Act.put, List.setIfInBounds_toArray, List.set_cons_zero, List.set_cons_succ] at hbb
                  subst hbb
                  go_simp
                  exact hK.out _ _ (hJ.pure (gb_refl _ _) rfl rfl)
                · exact Bool.noConfusion (show true = false from hw)
              · intro l t w7 hJ hl hd
                refine ⟨fun hw bb hbb K hK => ?_, fun hw => ?_⟩
                · clear hw
                  have f0 := hJ.val 0 _ rfl (hd 0 (by kernel_rfl))
                  have f1 := hJ.val 1 _ rfl (hd 1 (by kernel_rfl))
                  have f2 := hJ.val 2 _ rfl (hd 2 (by kernel_rfl))
                  simp only [puts, Act.put, List.setIfInBounds_toArray, List.set_cons_zero, List.set_cons_succ] at hbb
                  rw [f0] at hbb
                  rw [f1] at hbb
                  rw [f2] at hbb
                  subst hbb
                  go_simp
                  refine (shas_n b0 b1 b2 b3 _ _ _ Hin.out).mono ?_
                  rintro e w8 ⟨rfl, hg⟩
                  exact hK.out _ _ (hJ.pure hg rfl rfl)
                · exact Bool.noConfusion (show true = false from hw)
              · intro l t w7 hJ hl hd
                refine ⟨fun hw bb hbb K hK => ?_, fun hw => ?_⟩
                · clear hw
                  have f3 := hJ.val 3 _ rfl (hd 3 (by kernel_rfl))
                  simp only [puts, Act.put, List.setIfInBounds_toArray, List.set_cons_zero, List.set_cons_succ] at hbb
                  rw [f3] at hbb
                  subst hbb
                  go_simp
                  exact hK.out _ _ (hJ.pure (gb_refl _ _) rfl rfl)
                · exact Bool.noConfusion (show true = false from hw)
              · intro l t w7 hJ hl hd
                have e4 := hJ.val 4 _ rfl (hd 4 (by kernel_rfl))
                refine ⟨fun hw => ?_, fun hw => hJ.pure (gb_refl _ _) rfl rfl⟩
                unfold wantL at hw
                simp only [e4] at hw
                exact absurd hw (by decide)
              · intro l t w7 hJ hl hd
                have e4 := hJ.val 4 _ rfl (hd 4 (by kernel_rfl))
                refine ⟨fun hw => ?_, fun hw => hJ.pure (gb_refl _ _) rfl rfl⟩
                unfold wantL at hw
                simp only [e4] at hw
                exact absurd hw (by decide)
              · intro l t w7 hJ hl hd
                have e4 := hJ.val 4 _ rfl (hd 4 (by kernel_rfl))
                refine ⟨fun hw => ?_, fun hw => hJ.pure (gb_refl _ _) rfl rfl⟩
                unfold wantL at hw
                simp only [e4] at hw
                exact absurd hw (by decide)
              · intro l t w7 hJ hl hd
                have e4 := hJ.val 4 _ rfl (hd 4 (by kernel_rfl))
                refine ⟨fun hw => ?_, fun hw => hJ.pure (gb_refl _ _) rfl rfl⟩
                unfold wantL at hw
                simp only [e4] at hw
                exact absurd hw (by decide)
              · intro l t w7 hJ hl hd
                have e4 := hJ.val 4 _ rfl (hd 4 (by kernel_rfl))
                refine ⟨fun hw => ?_, fun hw => hJ.pure (gb_refl _ _) rfl rfl⟩
                unfold wantL at hw
                simp only [e4] at hw
                exact absurd hw (by decide)
              · intro l t w7 hJ hl hd
                have e4 := hJ.val 4 _ rfl (hd 4 (by kernel_rfl))
                refine ⟨fun hw => ?_, fun hw => hJ.pure (gb_refl _ _) rfl rfl⟩
                unfold wantL at hw
                simp only [e4] at hw
                exact absurd hw (by decide)
              · intro l t w7 hJ hl hd
                have e4 := hJ.val 4 _ rfl (hd 4 (by kernel_rfl))
                refine ⟨fun hw => ?_, fun hw => hJ.pure (gb_refl _ _) rfl rfl⟩
                unfold wantL at hw
                simp only [e4] at hw
                exact absurd hw (by decide)
              · intro l t w7 hJ hl hd
                have e4 := hJ.val 4 _ rfl (hd 4 (by kernel_rfl))
                refine ⟨fun hw => ?_, fun hw => hJ.pure (gb_refl _ _) rfl rfl⟩
                unfold wantL at hw
                simp only [e4] at hw
                exact absurd hw (by decide)
              · intro l t w7 hJ hl hd
                have e4 := hJ.val 4 _ rfl (hd 4 (by kernel_rfl))
                refine ⟨fun hw => ?_, fun hw => hJ.pure (gb_refl _ _) rfl rfl⟩
                unfold wantL at hw
                simp only [e4] at hw
                exact absurd hw (by decide)
              · intro l t w7 hJ hl hd
                have e4 := hJ.val 4 _ rfl (hd 4 (by kernel_rfl))
                refine ⟨fun hw => ?_, fun hw => hJ.pure (gb_refl _ _) rfl rfl⟩
                unfold wantL at hw
                simp only [e4] at hw
                exact absurd hw (by decide)
              · intro l t w7 hJ hl hd
                refine ⟨fun hw bb hbb K hK => ?_, fun hw => ?_⟩
                · clear hw
                  have f4 := hJ.val 4 _ rfl (hd 4 (by kernel_rfl))
                  have f14 := hJ.val 14 _ rfl (hd 14 (by kernel_rfl))
                  simp only [puts, Act.put, List.setIfInBounds_toArray, List.set_cons_zero, List.set_cons_succ] at hbb
                  rw [f4] at hbb
                  rw [f14] at hbb
                  subst hbb
                  go_simp
                  exact hK.out _ _ (hJ.pure (gb_refl _ _) rfl rfl)
                · exact Bool.noConfusion (show true = false from hw)
            intro l t w7 hJ hl
            have e15 := hJ.val 15 _ rfl (hl 15 (by decide))
            have HB7 := hid hJ.gb
            clear hJ hl
            simp only [puts, Act.put, List.setIfInBounds_toArray, List.set_cons_zero, List.set_cons_succ]
            rw [e15]
            clear e15
            go_wp2_with fail
            exact ⟨⟨c + 1, i' + 4, by omega, by have h := Hi2.out; rw [← Nat.add_assoc, Nat.add_mul (j * dw + c) 1]; omega, by first | rfl | (congr 1; push_cast; omega), by first | rfl | (congr 1; push_cast; omega), gb_trans HR.out HB7.out⟩, by have := HGX.out; simp [intOf]; omega⟩
        · have t2 : ¬ (Xd0 + (c : Int) < Xd1) := by omega
          have hcd : c = dw := by omega
          have HGY := hid gy
          clear hi' hgr gm gy gx
          go_wp2_with fail
          exact ⟨⟨j + 1, i', by omega, by have h := Hi2.out; rw [hcd] at h; rw [h, Nat.add_mul j 1 dw, Nat.one_mul], by first | rfl | (congr 1; push_cast; omega), rfl, HR.out⟩, by have := HGY.out; simp [intOf]; omega⟩
      · have t1 : ¬ (Yd0 + (j : Int) < Yd1) := by omega
        clear gx gy gw gh v1 v2 v3 v4
        go_wp2_with fail
        go_ret
        exact ⟨rfl, gb_trans HGc.out HR.out⟩
    · go_upto_region 16 with fail
      obtain ⟨w6, hw6⟩ : ∃ w6 : World, w6 = w5 := ⟨_, rfl⟩
      rw [← hw6]
      have hg6 : w5.grownBy w6 none := by rw [hw6]; exact (by (repeat (first | exact gb_refl _ _ | assumption | refine gb_drew ?_ | refine gb_drewN ?_ _ | refine gb_alloc ?_ _ | refine gb_setCell ?_ (.inr (by simp <;> omega)) _)))
      have hW6 : CellsAt w6 (w.heap.size + 1 + 1) [.int .u8 (col 0), .int .u8 (col 1), .int .u8 (col 2), .int .u8 (col 3), .int .u8 (col 4), .int .u8 (col 5), .int .u8 (col 6), .int .u8 (col 7)] := HC5.out.kept0 hg6
      have HW6 := hid hW6
      have HA6 := hid (HA5.out.kept0 hg6)
      have HT6 := hid (HT5.out.kept0 hg6)
      have HG6 := hid (gb_trans HG5.out hg6)
      have HO6 := hid (HO5.out.kept0 hg6)
      clear hg6 hW6 hw6 a0 a1 a2 a3 a4 a5 k0 k2 k4 k6
      obtain ⟨b0, hb0⟩ : ∃ b0, ia 0 q0 q1 q2 q3 Xd0 Yd0 Xd1 Yd1 = b0 := ⟨_, rfl⟩
      obtain ⟨b1, hb1⟩ : ∃ b1, ia 1 q0 q1 q2 q3 Xd0 Yd0 Xd1 Yd1 = b1 := ⟨_, rfl⟩
      obtain ⟨b2, hb2⟩ : ∃ b2, ia 2 q0 q1 q2 q3 Xd0 Yd0 Xd1 Yd1 = b2 := ⟨_, rfl⟩
      obtain ⟨b3, hb3⟩ : ∃ b3, ia 3 q0 q1 q2 q3 Xd0 Yd0 Xd1 Yd1 = b3 := ⟨_, rfl⟩
      have Hb := hid (And.intro hb0 (And.intro hb1 (And.intro hb2 hb3)))
      clear hb0 hb1 hb2 hb3
      refine wp_region_inv (JV w6 [some (vR q0 q1 q2 q3), some (vI 4 Xd0 Yd0 Xd1 Yd1 Ad n cd), some (vR Xd0 Yd0 Xd1 Yd1), some (vR b0 b1 b2 b3), none, none] [(4, 5, [.int .i64 b0, .int .i64 b1, .int .i64 b2, .int .i64 b3])]) (fun _ => undef) (by kernel_rfl) (by kernel_rfl) [(0, 68), (1, 69), (2, 70), (3, 71), (4, 12)] (by kernel_rfl) (JV.start (by (repeat (first | exact gb_refl _ _ | assumption | refine gb_drew ?_ | refine gb_drewN ?_ _ | refine gb_alloc ?_ _ | refine gb_setCell ?_ (.inr (by simp <;> omega)) _)))) ?_ ?_
      · refine Steps'.cons [] (by kernel_rfl) ?_ (Steps'.cons [] (by kernel_rfl) ?_ (Steps'.cons [(1, 69)] (by kernel_rfl) ?_ (Steps'.cons [(0, 68), (2, 70)] (by kernel_rfl) ?_ (Steps'.cons [] (by kernel_rfl) ?_ (Steps'.cons [(3, 71), (4, 12)] (by kernel_rfl) ?_ Steps'.nil)))))
        · intro l t w7 hJ hl hd bb hbb K hK
          have f0 := (HT6.out.kept0 hJ.gb) 0 _ rfl
          have f1 := (HT6.out.kept0 hJ.gb) 1 _ rfl
          have f2 := (HT6.out.kept0 hJ.gb) 2 _ rfl
          have f3 := (HT6.out.kept0 hJ.gb) 3 _ rfl
          simp only [puts, Act.put, List.setIfInBounds_toArray, List.set_cons_zero, List.set_cons_succ] at hbb
          subst hbb
          go_simp
          exact hK.out _ _ (hJ.pure (gb_refl _ _) rfl rfl)
        · intro l t w7 hJ hl hd bb hbb K hK
          have f0 := (HA6.out.kept0 hJ.gb) 0 _ rfl
          have f1 := (HA6.out.kept0 hJ.gb) 1 _ rfl
          have f2 := (HA6.out.kept0 hJ.gb) 2 _ rfl
          have f3 := (HA6.out.kept0 hJ.gb) 3 _ rfl
          have f4 := (HA6.out.kept0 hJ.gb) 4 _ rfl
          have f5 := (HA6.out.kept0 hJ.gb) 5 _ rfl
          simp only [puts, Act.put, List.setIfInBounds_toArray, List.set_cons_zero, List.set_cons_succ] at hbb
          subst hbb
          go_simp
          exact hK.out _ _ (hJ.pure (gb_refl _ _) rfl rfl)
        · intro l t w7 hJ hl hd bb hbb K hK
          have e1 := hJ.val 1 _ rfl (hd 1 (by kernel_rfl))
          simp only [puts, Act.put, List.setIfInBounds_toArray, List.set_cons_zero, List.set_cons_succ] at hbb
          rw [e1] at hbb
          subst hbb
          go_simp
          refine (sbounds_c 4 Xd0 Yd0 Xd1 Yd1 Ad n cd _).mono ?_
          rintro e w8 ⟨he, hg⟩
          have he : e = .returned (vR Xd0 Yd0 Xd1 Yd1) := he
          subst he
          exact hK.out _ _ (hJ.pure hg rfl rfl)
        · intro l t w7 hJ hl hd bb hbb K hK
          have e0 := hJ.val 0 _ rfl (hd 0 (by kernel_rfl))
          have e2 := hJ.val 2 _ rfl (hd 2 (by kernel_rfl))
          simp only [puts, Act.put, List.setIfInBounds_toArray, List.set_cons_zero, List.set_cons_succ] at hbb
          rw [e0] at hbb
          rw [e2] at hbb
          subst hbb
          go_simp
          refine (scommon_c q0 q1 q2 q3 Xd0 Yd0 Xd1 Yd1 _).mono ?_
          rintro e w8 ⟨rfl, hg⟩
          rw [isec_ia, Hb.out.1, Hb.out.2.1, Hb.out.2.2.1, Hb.out.2.2.2]
          exact hK.out _ _ (hJ.pure hg rfl rfl)
        · intro l t w7 hJ hl hd bb hbb K hK
          simp only [puts, Act.put, List.setIfInBounds_toArray, List.set_cons_zero, List.set_cons_succ] at hbb
          subst hbb
          go_simp
          exact hK.out _ _ (hJ.alloc (vsOK1 rfl) (C := #[.int .i64 0, .int .i64 0, .int .i64 0, .int .i64 0]) (s := 5) (vals := [.int .i64 b0, .int .i64 b1, .int .i64 b2, .int .i64 b3]) (by simp) rfl hl rfl rfl)
        · intro l t w7 hJ hl hd bb hbb K hK
          obtain ⟨g, eg, -, -, hc⟩ := hJ.open (a := 4) (s := 5) (vals := [.int .i64 b0, .int .i64 b1, .int .i64 b2, .int .i64 b3]) (by simp) (hd 4 (by kernel_rfl))
          obtain ⟨⟨u0, c0⟩, z0⟩ := hc 0 (by simp)
          obtain ⟨⟨u1, c1⟩, z1⟩ := hc 1 (by simp)
          obtain ⟨⟨u2, c2⟩, z2⟩ := hc 2 (by simp)
          obtain ⟨⟨u3, c3⟩, z3⟩ := hc 3 (by simp)
          have e3 := hJ.val 3 _ rfl (hd 3 (by kernel_rfl))
          simp only [puts, Act.put, List.setIfInBounds_toArray, List.set_cons_zero, List.set_cons_succ] at hbb
          rw [e3] at hbb
          rw [eg] at hbb
          subst hbb
          go_simp
          obtain ⟨y1, y2, y3⟩ := st4 c0 c1 c2 c3
          exact hK.out undef _ (hJ.store (u := undef) (vsOK1 rfl) (a := 4) (vals := [.int .i64 b0, .int .i64 b1, .int .i64 b2, .int .i64 b3]) (by simp) rfl (hd 4 (by kernel_rfl)) eg y1 y2 y3)
      intro l t wc hJ hl
      obtain ⟨g, e4, -, -, hgc⟩ := hJ.var (a := 4) (s := 5) (vals := [.int .i64 b0, .int .i64 b1, .int .i64 b2, .int .i64 b3]) (by simp) (hl 4 (by decide)) (hl 5 (by decide))
      have hgw := hJ.gb
      have HCg : Hid (CellsAt wc g [.int .i64 b0, .int .i64 b1, .int .i64 b2, .int .i64 b3]) := hid hgc
      have HAc := hid (HA6.out.kept0 hgw)
      have HWc := hid (HW6.out.kept0 hgw)
      have HGc := hid (gb_trans HG6.out hgw)
      have HOc := hid (HO6.out.kept0 hgw)
      clear hJ hl hgc hgw
      simp only [puts, Act.put, List.setIfInBounds_toArray, List.set_cons_zero, List.set_cons_succ]
      rw [e4]
      clear e4
      have a0 := HAc.out 0 _ rfl
      have a1 := HAc.out 1 _ rfl
      have a2 := HAc.out 2 _ rfl
      have a3 := HAc.out 3 _ rfl
      have a4 := HAc.out 4 _ rfl
      go_wp2_with fail
      refine (size_c 4 (by omega) _).mono ?_
      rintro e wz ⟨he, rfl⟩
      have he : e = .returned (.int .i64 8) := he
      subst he
      go_wp2_with fail
      clear a0 a1 a2 a3 a4
      have a1 := HAc.out 1 _ rfl
      have a2 := HAc.out 2 _ rfl
      have a3 := HAc.out 3 _ rfl
      have a4 := HAc.out 4 _ rfl
      have zA := World.block_lt_of_cell? wc _ a1
      have zC := HCg.out.lt
      go_loopw [15, 14] (fun u v wr => ∃ (j i : Nat), j ≤ dh ∧ i = (j * dw) * 8 ∧ u = .int .i64 (Yd0 + (j : Int)) ∧ v = .int .i64 (i : Int) ∧ wc.grownBy wr none) (fun u _ _ => (Yd1 - intOf u).toNat)
      case atStart => exact ⟨0, 0, by omega, by omega, by first | rfl | (congr 1; omega), rfl, gb_refl _ _⟩
      case round =>
      obtain ⟨j, i, hj, hi, rfl, rfl, hgr⟩ := hrel
      obtain ⟨-, gx, gy, gm, gw, gh, v1, v2, v3, v4⟩ := HGD.out
      have HR := hid hgr
      have a1r := (gb_cell0 hgr zA).trans a1
      have a2r := (gb_cell0 hgr (p := ⟨w.heap.size, 2, none⟩) zA).trans a2
      have a3r := (gb_cell0 hgr (p := ⟨w.heap.size, 3, none⟩) zA).trans a3
      have a4r := (gb_cell0 hgr (p := ⟨w.heap.size, 4, none⟩) zA).trans a4
      have hib : i ≤ 200000 := by rw [hi]; have := Nat.mul_le_mul hj (Nat.le_refl dw); have := Nat.mul_le_mul gh gw; omega
      have Hi := hid hi
      clear hi hgr gm
      by_cases hlt : j < dh
      · have t1 : Yd0 + (j : Int) < Yd1 := by omega
        clear gx gy
        go_wp2_with fail
        obtain ⟨wo, hwo⟩ : ∃ wo : World, wo = wr := ⟨_, rfl⟩
        go_loopw [16, 14] (fun u v wr => ∃ (c i : Nat), c ≤ dw ∧ i = (j * dw + c) * 8 ∧ u = .int .i64 (Xd0 + (c : Int)) ∧ v = .int .i64 (i : Int) ∧ wc.grownBy wr none) (fun u _ _ => (Xd1 - intOf u).toNat)
        case atStart => exact ⟨0, i, by omega, Hi.out, by first | rfl | (congr 1; omega), rfl, HR.out⟩
        case round =>
        clear hwo wo a1r a2r a3r a4r HR
        obtain ⟨c, i', hc, hi', rfl, rfl, hgr⟩ := hrel
        have HR := hid hgr
        have a1r := (gb_cell0 hgr zA).trans a1
        have a2r := (gb_cell0 hgr (p := ⟨w.heap.size, 2, none⟩) zA).trans a2
        have a3r := (gb_cell0 hgr (p := ⟨w.heap.size, 3, none⟩) zA).trans a3
        have a4r := (gb_cell0 hgr (p := ⟨w.heap.size, 4, none⟩) zA).trans a4
        have HCr := hid (HCg.out.kept0 hgr)
        obtain ⟨-, gx, gy, gm, gw, gh, v1, v2, v3, v4⟩ := HGD.out
        have hib2 : i' ≤ 200000 := by rw [hi']; have := Nat.mul_le_mul hj (Nat.le_refl dw); have := Nat.mul_le_mul gh gw; omega
        have Hi2 := hid hi'
        by_cases hlc : c < dw
        · have t2 : Xd0 + (c : Int) < Xd1 := by omega
          have hfit : i' + 8 ≤ n := by
            have h1 := row_fits (wd := dw) (k := 8) (r := j) (m := c * 8 + 8) hlt (by omega)
            have h2 : (j * dw + c) * 8 = j * (dw * 8) + c * 8 := by rw [Nat.add_mul, Nat.mul_assoc]
            have h3 : n = dh * (dw * 8) := gm
            rw [hi', h2, h3]; omega
          obtain ⟨g', hA, hnc, hcc5, hcell⟩ := own_at (HOc.out.kept0 hgr) (by omega)
          subst hA
          have Hcell := hid hcell
          have s1 : IntKind.i64.wrap ((i' : Int) + 8) = (i' : Int) + 8 := IntWalk.i64_in _ (by omega)
          have s2 : (0 : Int) ≤ (i' : Int) + 8 := by omega
          have s3 : (i' : Int) + 8 ≤ (c5 : Int) := by omega
          have s4 : ((i' : Int) + 8).toNat = i' + 8 := by omega
          have s6 : ¬ (c5 = i') := by omega
          have s7 : (i' : Int) ≤ (i' : Int) + 8 := by omega
          have HGX := hid (And.intro gx hlc)
          clear hi' hgr gm hcell gy gx
          by_cases hin : b0 ≤ Xd0 + (c : Int) ∧ Xd0 + (c : Int) < b2 ∧ b1 ≤ Yd0 + (j : Int) ∧ Yd0 + (j : Int) < b3
          · have Hin := hid hin
            obtain ⟨Z, hZ⟩ : ∃ Z, strOfNums (byL 8 (cut1 4 col)) = Z := ⟨_, rfl⟩
            have HZ := hid hZ
            have hsame : ∀ ch, ch < 8 → wr.cell? ⟨g', i' + ch, none⟩ = some (.int .u8 (cut1 4 col ch)) := fun ch hch => by
              rw [Hcell.out (i' + ch) (by omega), Hi2.out]
              have hI : In0 q0 q1 q2 q3 0 0 Xd0 Yd0 (-1000000000) (-1000000000) 2000000000 2000000000 j c := by
                have := ia_in Hb.out hin
                have h2 := HNR.out
                have h3 := HGD.out.2
                unfold nr at h2
                unfold In0
                omega
              have e := res_atk (k := 4) (dw := dw) (r := j) (c := c) (ch := ch) (F := fun r c => px0 4 6 1 (toP dw (sz 4) p r c) (srcAt 6 2000000000 col q0 q1 0 0 Xd0 Yd0 (-1000000000) (-1000000000) r c)) (p := p) hlc hch hI
              have e2 : srcAt 6 2000000000 col q0 q1 0 0 Xd0 Yd0 (-1000000000) (-1000000000) j c = col := by unfold srcAt srcP; rw [if_pos rfl]
              try dsimp only at e
              rw [e2, one_px (by omega) HB.out] at e
              exact congrArg (fun x => some (Value.int .u8 x)) e
            have hwant : ∀ ch, ch < 8 → wr.cell? ⟨(w.heap.size + 1 + 1), ch, none⟩ = some (.int .u8 (cut1 4 col ch)) := fun ch hch => (HWc.out.kept0 HR.out) ch _ (by
              have : ch = 0 ∨ ch = 1 ∨ ch = 2 ∨ ch = 3 ∨ ch = 4 ∨ ch = 5 ∨ ch = 6 ∨ ch = 7 := by omega
              rcases this with rfl | rfl | rfl | rfl | rfl | rfl | rfl | rfl <;> rfl)
            have Hsame := hid hsame
            have Hwant := hid hwant
            clear hsame hwant hin hZ
            go_wp2_with fail
            refine wp_region_invg (JV wr [some (vR b0 b1 b2 b3), some (.int .i64 (Xd0 + (c : Int))), some (.int .i64 (Yd0 + (j : Int))), some (.bool true), some (.bool true), some ((Value.slice (some ⟨g', 0, none⟩) n c5)), some ((.int .i64 (i' : Int))), some ((.int .i64 (i' : Int))), some (.int .i64 8), some (.int .i64 ((i' : Int) + 8)), some ((Value.slice (some ⟨g', i', none⟩) 8 (c5 - i'))), some (.string Z), some ((Value.slice (some ⟨(w.heap.size + 1 + 1), 0, none⟩) 8 8)), some (.string Z), some (.bool false), some (.bool false)] []) (fun _ => undef) (by kernel_rfl) (by kernel_rfl) (by kernel_rfl) [(0, 91), (1, 92), (2, 93), (3, 94), (4, 95), (5, 96), (6, 97), (7, 98), (8, 99), (9, 100), (10, 101), (11, 102), (12, 103), (13, 104), (14, 105), (15, 106)] (by kernel_rfl) (JV.start (by (repeat (first | exact gb_refl _ _ | assumption | refine gb_drew ?_ | refine gb_drewN ?_ _ | refine gb_alloc ?_ _ | refine gb_setCell ?_ (.inr (by simp <;> omega)) _)))) ?_ ?_
            · refine StepsG.cons [] (by kernel_rfl) ?_ (StepsG.cons [] (by kernel_rfl) ?_ (StepsG.cons [] (by kernel_rfl) ?_ (StepsG.cons [(0, 91), (1, 92), (2, 93)] (by kernel_rfl) ?_ (StepsG.cons [(3, 94)] (by kernel_rfl) ?_ (StepsG.cons [] (by kernel_rfl) ?_ (StepsG.cons [] (by kernel_rfl) ?_ (StepsG.cons [] (by kernel_rfl) ?_ (StepsG.cons [] (by kernel_rfl) ?_ (StepsG.cons [(7, 98), (8, 99)] (by kernel_rfl) ?_ (StepsG.cons [(5, 96), (6, 97), (9, 100)] (by kernel_rfl) ?_ (StepsG.cons [(10, 101)] (by kernel_rfl) ?_ (StepsG.cons [] (by kernel_rfl) ?_ (StepsG.cons [(12, 103)] (by kernel_rfl) ?_ (StepsG.cons [(11, 102), (13, 104)] (by kernel_rfl) ?_ (StepsG.cons [(4, 95), (14, 105)] (by kernel_rfl) ?_ (StepsG.nil))))))))))))))))
              · intro l t w7 hJ hl hd
                refine ⟨fun hw bb hbb K hK => ?_, fun hw => ?_⟩
                · clear hw
                  have x0 := (HCr.out.kept0 hJ.gb) 0 _ rfl
                  have x1 := (HCr.out.kept0 hJ.gb) 1 _ rfl
                  have x2 := (HCr.out.kept0 hJ.gb) 2 _ rfl
                  have x3 := (HCr.out.kept0 hJ.gb) 3 _ rfl
                  simp only [puts, Act.put, List.setIfInBounds_toArray, List.set_cons_zero, List.set_cons_succ] at hbb
                  subst hbb
                  go_simp
                  exact hK.out _ _ (hJ.pure (gb_refl _ _) rfl rfl)
                · exact Bool.noConfusion (show true = false from hw)
              · intro l t w7 hJ hl hd
                refine ⟨fun hw bb hbb K hK => ?_, fun hw => ?_⟩
                · clear hw
                  simp only [puts, Act.put, List.setIfInBounds_toArray, List.set_cons_zero, List.set_cons_succ] at hbb
                  subst hbb
                  go_simp
                  exact hK.out _ _ (hJ.pure (gb_refl _ _) rfl rfl)
                · exact Bool.noConfusion (show true = false from hw)
              · intro l t w7 hJ hl hd
                refine ⟨fun hw bb hbb K hK => ?_, fun hw => ?_⟩
                · clear hw
                  simp only [puts, Act.put, List.setIfInBounds_toArray, List.set_cons_zero, List.set_cons_succ] at hbb
                  subst hbb
                  go_simp
                  exact hK.out _ _ (hJ.pure (gb_refl _ _) rfl rfl)
                · exact Bool.noConfusion (show true = false from hw)
              · intro l t w7 hJ hl hd
                refine ⟨fun hw bb hbb K hK => ?_, fun hw => ?_⟩
                · clear hw
                  have f0 := hJ.val 0 _ rfl (hd 0 (by kernel_rfl))
                  have f1 := hJ.val 1 _ rfl (hd 1 (by kernel_rfl))
                  have f2 := hJ.val 2 _ rfl (hd 2 (by kernel_rfl))
                  simp only [puts, Act.put, List.setIfInBounds_toArray, List.set_cons_zero, List.set_cons_succ] at hbb
                  rw [f0] at hbb
                  rw [f1] at hbb
                  rw [f2] at hbb
                  subst hbb
                  go_simp
                  refine (shas_y b0 b1 b2 b3 _ _ _ Hin.out.1 Hin.out.2.1 Hin.out.2.2.1 Hin.out.2.2.2).mono ?_
                  rintro e w8 ⟨rfl, hg⟩
                  exact hK.out _ _ (hJ.pure hg rfl rfl)
                · exact Bool.noConfusion (show true = false from hw)
              · intro l t w7 hJ hl hd
                refine ⟨fun hw bb hbb K hK => ?_, fun hw => ?_⟩
                · clear hw
                  have f3 := hJ.val 3 _ rfl (hd 3 (by kernel_rfl))
                  simp only [puts, Act.put, List.setIfInBounds_toArray, List.set_cons_zero, List.set_cons_succ] at hbb
                  rw [f3] at hbb
                  subst hbb
                  go_simp
                  exact hK.out _ _ (hJ.pure (gb_refl _ _) rfl rfl)
                · exact Bool.noConfusion (show true = false from hw)
              · intro l t w7 hJ hl hd
                have e4 := hJ.val 4 _ rfl (hd 4 (by kernel_rfl))
                refine ⟨fun hw bb hbb K hK => ?_, fun hw => ?_⟩
                · clear hw
                  simp only [puts, Act.put, List.setIfInBounds_toArray, List.set_cons_zero, List.set_cons_succ] at hbb
                  subst hbb
                  go_simp
                  exact hK.out _ _ (hJ.pure (gb_refl _ _) rfl rfl)
                · unfold wantL at hw
                  simp only [e4] at hw
                  exact absurd hw (by decide)
              · intro l t w7 hJ hl hd
                have e4 := hJ.val 4 _ rfl (hd 4 (by kernel_rfl))
                refine ⟨fun hw bb hbb K hK => ?_, fun hw => ?_⟩
                · clear hw
                  simp only [puts, Act.put, List.setIfInBounds_toArray, List.set_cons_zero, List.set_cons_succ] at hbb
                  subst hbb
                  go_simp
                  exact hK.out _ _ (hJ.pure (gb_refl _ _) rfl rfl)
                · unfold wantL at hw
                  simp only [e4] at hw
                  exact absurd hw (by decide)
              · intro l t w7 hJ hl hd
                have e4 := hJ.val 4 _ rfl (hd 4 (by kernel_rfl))
                refine ⟨fun hw bb hbb K hK => ?_, fun hw => ?_⟩
                · clear hw
                  simp only [puts, Act.put, List.setIfInBounds_toArray, List.set_cons_zero, List.set_cons_succ] at hbb
                  subst hbb
                  go_simp
                  exact hK.out _ _ (hJ.pure (gb_refl _ _) rfl rfl)
                · unfold wantL at hw
                  simp only [e4] at hw
                  exact absurd hw (by decide)
              · intro l t w7 hJ hl hd
                have e4 := hJ.val 4 _ rfl (hd 4 (by kernel_rfl))
                refine ⟨fun hw bb hbb K hK => ?_, fun hw => ?_⟩
                · clear hw
                  simp only [puts, Act.put, List.setIfInBounds_toArray, List.set_cons_zero, List.set_cons_succ] at hbb
                  subst hbb
                  go_simp
                  exact hK.out _ _ (hJ.pure (gb_refl _ _) rfl rfl)
                · unfold wantL at hw
                  simp only [e4] at hw
                  exact absurd hw (by decide)
              · intro l t w7 hJ hl hd
                have e4 := hJ.val 4 _ rfl (hd 4 (by kernel_rfl))
                refine ⟨fun hw bb hbb K hK => ?_, fun hw => ?_⟩
                · clear hw
                  have f7 := hJ.val 7 _ rfl (hd 7 (by kernel_rfl))
                  have f8 := hJ.val 8 _ rfl (hd 8 (by kernel_rfl))
                  simp only [puts, Act.put, List.setIfInBounds_toArray, List.set_cons_zero, List.set_cons_succ] at hbb
                  rw [f7] at hbb
                  rw [f8] at hbb
                  subst hbb
                  go_simp
                  exact hK.out _ _ (hJ.pure (gb_refl _ _) rfl rfl)
                · unfold wantL at hw
                  simp only [e4] at hw
                  exact absurd hw (by decide)
              · intro l t w7 hJ hl hd
                have e4 := hJ.val 4 _ rfl (hd 4 (by kernel_rfl))
                refine ⟨fun hw bb hbb K hK => ?_, fun hw => ?_⟩
                · clear hw
                  have f5 := hJ.val 5 _ rfl (hd 5 (by kernel_rfl))
                  have f6 := hJ.val 6 _ rfl (hd 6 (by kernel_rfl))
                  have f9 := hJ.val 9 _ rfl (hd 9 (by kernel_rfl))
                  simp only [puts, Act.put, List.setIfInBounds_toArray, List.set_cons_zero, List.set_cons_succ] at hbb
                  rw [f5] at hbb
                  rw [f6] at hbb
                  rw [f9] at hbb
                  subst hbb
                  go_simp
                  exact hK.out _ _ (hJ.pure (gb_refl _ _) rfl rfl)
                · unfold wantL at hw
                  simp only [e4] at hw
                  exact absurd hw (by decide)
              · intro l t w7 hJ hl hd
                have e4 := hJ.val 4 _ rfl (hd 4 (by kernel_rfl))
                refine ⟨fun hw bb hbb K hK => ?_, fun hw => ?_⟩
                · clear hw
                  have f10 := hJ.val 10 _ rfl (hd 10 (by kernel_rfl))
                  have z1 := convN (w := w7) (A := ⟨g', i', none⟩) (n := 8) (f := cut1 4 col) (c5 - i') (fun ch hch => by (have ad : (⟨g', i', none⟩ : Addr).add ch = ⟨g', i' + ch, none⟩ := by unfold Addr.add; by_cases h : ch = 0 <;> simp [h]); rw [ad]; exact (gb_cell0 hJ.gb (World.block_lt_of_cell? wr _ (Hsame.out ch hch))).trans (Hsame.out ch hch))
                  rw [HZ.out] at z1
                  simp only [puts, Act.put, List.setIfInBounds_toArray, List.set_cons_zero, List.set_cons_succ] at hbb
                  rw [f10] at hbb
                  subst hbb
                  go_simp
                  exact hK.out _ _ (hJ.pure (gb_refl _ _) rfl rfl)
                · unfold wantL at hw
                  simp only [e4] at hw
                  exact absurd hw (by decide)
              · intro l t w7 hJ hl hd
                have e4 := hJ.val 4 _ rfl (hd 4 (by kernel_rfl))
                refine ⟨fun hw bb hbb K hK => ?_, fun hw => ?_⟩
                · clear hw
                  simp only [puts, Act.put, List.setIfInBounds_toArray, List.set_cons_zero, List.set_cons_succ] at hbb
                  subst hbb
                  go_simp
                  exact hK.out _ _ (hJ.pure (gb_refl _ _) rfl rfl)
                · unfold wantL at hw
                  simp only [e4] at hw
                  exact absurd hw (by decide)
              · intro l t w7 hJ hl hd
                have e4 := hJ.val 4 _ rfl (hd 4 (by kernel_rfl))
                refine ⟨fun hw bb hbb K hK => ?_, fun hw => ?_⟩
                · clear hw
                  have f12 := hJ.val 12 _ rfl (hd 12 (by kernel_rfl))
                  have z1 := convN (w := w7) (A := ⟨(w.heap.size + 1 + 1), 0, none⟩) (n := 8) (f := cut1 4 col) 8 (fun ch hch => by (have ad : (⟨(w.heap.size + 1 + 1), 0, none⟩ : Addr).add ch = ⟨(w.heap.size + 1 + 1), ch, none⟩ := by unfold Addr.add; by_cases h : ch = 0 <;> simp [h]); rw [ad]; exact (gb_cell0 hJ.gb (World.block_lt_of_cell? wr _ (Hwant.out ch hch))).trans (Hwant.out ch hch))
                  rw [HZ.out] at z1
                  simp only [puts, Act.put, List.setIfInBounds_toArray, List.set_cons_zero, List.set_cons_succ] at hbb
                  rw [f12] at hbb
                  subst hbb
                  go_simp
                  exact hK.out _ _ (hJ.pure (gb_refl _ _) rfl rfl)
                · unfold wantL at hw
                  simp only [e4] at hw
                  exact absurd hw (by decide)
              · intro l t w7 hJ hl hd
                have e4 := hJ.val 4 _ rfl (hd 4 (by kernel_rfl))
                refine ⟨fun hw bb hbb K hK => ?_, fun hw => ?_⟩
                · clear hw
                  have f11 := hJ.val 11 _ rfl (hd 11 (by kernel_rfl))
                  have f13 := hJ.val 13 _ rfl (hd 13 (by kernel_rfl))
                  simp only [puts, Act.put, List.setIfInBounds_toArray, List.set_cons_zero, List.set_cons_succ] at hbb
                  rw [f11] at hbb
                  rw [f13] at hbb
                  subst hbb
                  go_simp
                  exact hK.out _ _ (hJ.pure (gb_refl _ _) rfl rfl)
                · unfold wantL at hw
                  simp only [e4] at hw
                  exact absurd hw (by decide)
              · intro l t w7 hJ hl hd
                refine ⟨fun hw bb hbb K hK => ?_, fun hw => ?_⟩
                · clear hw
                  have f4 := hJ.val 4 _ rfl (hd 4 (by kernel_rfl))
                  have f14 := hJ.val 14 _ rfl (hd 14 (by kernel_rfl))
                  simp only [puts, Act.put, List.setIfInBounds_toArray, List.set_cons_zero, List.set_cons_succ] at hbb
                  rw [f4] at hbb
                  rw [f14] at hbb
                  subst hbb
                  go_simp
                  exact hK.out _ _ (hJ.pure (gb_refl _ _) rfl rfl)
                · exact Bool.noConfusion (show true = false from hw)
            intro l t w7 hJ hl
            have e15 := hJ.val 15 _ rfl (hl 15 (by decide))
            have HB7 := hid hJ.gb
            clear hJ hl
            simp only [puts, Act.put, List.setIfInBounds_toArray, List.set_cons_zero, List.set_cons_succ]
            rw [e15]
            clear e15
            go_wp2_with fail
            exact ⟨⟨c + 1, i' + 8, by omega, by have h := Hi2.out; rw [← Nat.add_assoc, Nat.add_mul (j * dw + c) 1]; omega, by first | rfl | (congr 1; push_cast; omega), by first | rfl | (congr 1; push_cast; omega), gb_trans HR.out HB7.out⟩, by have := HGX.out; simp [intOf]; omega⟩
          · have Hin := hid hin
            clear hin
            go_wp2_with fail
            refine wp_region_invg (JV wr [some (vR b0 b1 b2 b3), some (.int .i64 (Xd0 + (c : Int))), some (.int .i64 (Yd0 + (j : Int))), some (.bool false), some (.bool false), some (undef), some (undef), some (undef), some (undef), some (undef), some (undef), some (undef), some (undef), some (undef), some (undef), some (.bool false)] []) (fun _ => undef) (by kernel_rfl) (by kernel_rfl) (by kernel_rfl) [(0, 91), (1, 92), (2, 93), (3, 94), (4, 95), (5, 96), (6, 97), (7, 98), (8, 99), (9, 100), (10, 101), (11, 102), (12, 103), (13, 104), (14, 105), (15, 106)] (by kernel_rfl) (JV.start (by (repeat (first | exact gb_refl _ _ | assumption | refine gb_drew ?_ | refine gb_drewN ?_ _ | refine gb_alloc ?_ _ | refine gb_setCell ?_ (.inr (by simp <;> omega)) _)))) ?_ ?_
            · refine StepsG.cons [] (by kernel_rfl) ?_ (StepsG.cons [] (by kernel_rfl) ?_ (StepsG.cons [] (by kernel_rfl) ?_ (StepsG.cons [(0, 91), (1, 92), (2, 93)] (by kernel_rfl) ?_ (StepsG.cons [(3, 94)] (by kernel_rfl) ?_ (StepsG.cons [] (by kernel_rfl) ?_ (StepsG.cons [] (by kernel_rfl) ?_ (StepsG.cons [] (by kernel_rfl) ?_ (StepsG.cons [] (by kernel_rfl) ?_ (StepsG.cons [(7, 98), (8, 99)] (by kernel_rfl) ?_ (StepsG.cons [(5, 96), (6, 97), (9, 100)] (by kernel_rfl) ?_ (StepsG.cons [(10, 101)] (by kernel_rfl) ?_ (StepsG.cons [] (by kernel_rfl) ?_ (StepsG.cons [(12, 103)] (by kernel_rfl) ?_ (StepsG.cons [(11, 102), (13, 104)] (by kernel_rfl) ?_ (StepsG.cons [(4, 95), (14, 105)] (by kernel_rfl) ?_ (StepsG.nil))))))))))))))))
              · intro l t w7 hJ hl hd
                refine ⟨fun hw bb hbb K hK => ?_, fun hw => ?_⟩
                · clear hw
                  have x0 := (HCr.out.kept0 hJ.gb) 0 _ rfl
                  have x1 := (HCr.out.kept0 hJ.gb) 1 _ rfl
                  have x2 := (HCr.out.kept0 hJ.gb) 2 _ rfl
                  have x3 := (HCr.out.kept0 hJ.gb) 3 _ rfl
                  simp only [puts, Act.put, List.setIfInBounds_toArray, List.set_cons_zero, List.set_cons_succ] at hbb
                  subst hbb
                  go_simp
                  exact hK.out _ _ (hJ.pure (gb_refl _ _) rfl rfl)
                · exact Bool.noConfusion (show true = false from hw)
              · intro l t w7 hJ hl hd
                refine ⟨fun hw bb hbb K hK => ?_, fun hw => ?_⟩
                · clear hw
                  simp only [puts, Act.put, List.setIfInBounds_toArray, List.set_cons_zero, List.set_cons_succ] at hbb
                  subst hbb
                  go_simp
                  exact hK.out _ _ (hJ.pure (gb_refl _ _) rfl rfl)
                · exact Bool.noConfusion (show true = false from hw)
              · intro l t w7 hJ hl hd
                refine ⟨fun hw bb hbb K hK => ?_, fun hw => ?_⟩
                · clear hw
                  simp only [puts, Act.put, List.setIfInBounds_toArray, List.set_cons_zero, List.set_cons_succ] at hbb
                  subst hbb
                  go_simp
                  exact hK.out _ _ (hJ.pure (gb_refl _ _) rfl rfl)
                · exact Bool.noConfusion (show true = false from hw)
              · intro l t w7 hJ hl hd
                refine ⟨fun hw bb hbb K hK => ?_, fun hw => ?_⟩
                · clear hw
                  have f0 := hJ.val 0 _ rfl (hd 0 (by kernel_rfl))
                  have f1 := hJ.val 1 _ rfl (hd 1 (by kernel_rfl))
                  have f2 := hJ.val 2 _ rfl (hd 2 (by kernel_rfl))
                  simp only [puts, Act.put, List.setIfInBounds_toArray, List.set_cons_zero, List.set_cons_succ] at hbb
                  rw [f0] at hbb
                  rw [f1] at hbb
                  rw [f2] at hbb
                  subst hbb
                  go_simp
                  refine (shas_n b0 b1 b2 b3 _ _ _ Hin.out).mono ?_
                  rintro e w8 ⟨rfl, hg⟩
                  exact hK.out _ _ (hJ.pure hg rfl rfl)
                · exact Bool.noConfusion (show true = false from hw)
              · intro l t w7 hJ hl hd
                refine ⟨fun hw bb hbb K hK => ?_, fun hw => ?_⟩
                · clear hw
                  have f3 := hJ.val 3 _ rfl (hd 3 (by kernel_rfl))
                  simp only [puts, Act.put, List.setIfInBounds_toArray, List.set_cons_zero, List.set_cons_succ] at hbb
                  rw [f3] at hbb
                  subst hbb
                  go_simp
                  exact hK.out _ _ (hJ.pure (gb_refl _ _) rfl rfl)
                · exact Bool.noConfusion (show true = false from hw)
              · intro l t w7 hJ hl hd
                have e4 := hJ.val 4 _ rfl (hd 4 (by kernel_rfl))
                refine ⟨fun hw => ?_, fun hw => hJ.pure (gb_refl _ _) rfl rfl⟩
                unfold wantL at hw
                simp only [e4] at hw
                exact absurd hw (by decide)
              · intro l t w7 hJ hl hd
                have e4 := hJ.val 4 _ rfl (hd 4 (by kernel_rfl))
                refine ⟨fun hw => ?_, fun hw => hJ.pure (gb_refl _ _) rfl rfl⟩
                unfold wantL at hw
                simp only [e4] at hw
                exact absurd hw (by decide)
              · intro l t w7 hJ hl hd
                have e4 := hJ.val 4 _ rfl (hd 4 (by kernel_rfl))
                refine ⟨fun hw => ?_, fun hw => hJ.pure (gb_refl _ _) rfl rfl⟩
                unfold wantL at hw
                simp only [e4] at hw
                exact absurd hw (by decide)
              · intro l t w7 hJ hl hd
                have e4 := hJ.val 4 _ rfl (hd 4 (by kernel_rfl))
                refine ⟨fun hw => ?_, fun hw => hJ.pure (gb_refl _ _) rfl rfl⟩
                unfold wantL at hw
                simp only [e4] at hw
                exact absurd hw (by decide)
              · intro l t w7 hJ hl hd
                have e4 := hJ.val 4 _ rfl (hd 4 (by kernel_rfl))
                refine ⟨fun hw => ?_, fun hw => hJ.pure (gb_refl _ _) rfl rfl⟩
                unfold wantL at hw
                simp only [e4] at hw
                exact absurd hw (by decide)
              · intro l t w7 hJ hl hd
                have e4 := hJ.val 4 _ rfl (hd 4 (by kernel_rfl))
                refine ⟨fun hw => ?_, fun hw => hJ.pure (gb_refl _ _) rfl rfl⟩
                unfold wantL at hw
                simp only [e4] at hw
                exact absurd hw (by decide)
              · intro l t w7 hJ hl hd
                have e4 := hJ.val 4 _ rfl (hd 4 (by kernel_rfl))
                refine ⟨fun hw => ?_, fun hw => hJ.pure (gb_refl _ _) rfl rfl⟩
                unfold wantL at hw
                simp only [e4] at hw
                exact absurd hw (by decide)
              · intro l t w7 hJ hl hd
                have e4 := hJ.val 4 _ rfl (hd 4 (by kernel_rfl))
                refine ⟨fun hw => ?_, fun hw => hJ.pure (gb_refl _ _) rfl rfl⟩
                unfold wantL at hw
                simp only [e4] at hw
                exact absurd hw (by decide)
              · intro l t w7 hJ hl hd
                have e4 := hJ.val 4 _ rfl (hd 4 (by kernel_rfl))
                refine ⟨fun hw => ?_, fun hw => hJ.pure (gb_refl _ _) rfl rfl⟩
                unfold wantL at hw
                simp only [e4] at hw
                exact absurd hw (by decide)
              · intro l t w7 hJ hl hd
                have e4 := hJ.val 4 _ rfl (hd 4 (by kernel_rfl))
                refine ⟨fun hw => ?_, fun hw => hJ.pure (gb_refl _ _) rfl rfl⟩
                unfold wantL at hw
                simp only [e4] at hw
                exact absurd hw (by decide)
              · intro l t w7 hJ hl hd
                refine ⟨fun hw bb hbb K hK => ?_, fun hw => ?_⟩
                · clear hw
                  have f4 := hJ.val 4 _ rfl (hd 4 (by kernel_rfl))
                  have f14 := hJ.val 14 _ rfl (hd 14 (by kernel_rfl))
                  simp only [puts, Act.put, List.setIfInBounds_toArray, List.set_cons_zero, List.set_cons_succ] at hbb
                  rw [f4] at hbb
                  rw [f14] at hbb
                  subst hbb
                  go_simp
                  exact hK.out _ _ (hJ.pure (gb_refl _ _) rfl rfl)
                · exact Bool.noConfusion (show true = false from hw)
            intro l t w7 hJ hl
            have e15 := hJ.val 15 _ rfl (hl 15 (by decide))
            have HB7 := hid hJ.gb
            clear hJ hl
            simp only [puts, Act.put, List.setIfInBounds_toArray, List.set_cons_zero, List.set_cons_succ]
            rw [e15]
            clear e15
            go_wp2_with fail
            exact ⟨⟨c + 1, i' + 8, by omega, by have h := Hi2.out; rw [← Nat.add_assoc, Nat.add_mul (j * dw + c) 1]; omega, by first | rfl | (congr 1; push_cast; omega), by first | rfl | (congr 1; push_cast; omega), gb_trans HR.out HB7.out⟩, by have := HGX.out; simp [intOf]; omega⟩
        · have t2 : ¬ (Xd0 + (c : Int) < Xd1) := by omega
          have hcd : c = dw := by omega
          have HGY := hid gy
          clear hi' hgr gm gy gx
          go_wp2_with fail
          exact ⟨⟨j + 1, i', by omega, by have h := Hi2.out; rw [hcd] at h; rw [h, Nat.add_mul j 1 dw, Nat.one_mul], by first | rfl | (congr 1; push_cast; omega), rfl, HR.out⟩, by have := HGY.out; simp [intOf]; omega⟩
      · have t1 : ¬ (Yd0 + (j : Int) < Yd1) := by omega
        clear gx gy gw gh v1 v2 v3 v4
        go_wp2_with fail
        go_ret
        exact ⟨rfl, gb_trans HGc.out HR.out⟩
    · go_upto_region 16 with fail
      obtain ⟨w6, hw6⟩ : ∃ w6 : World, w6 = (w5.alloc (.cells #[.int .u8 (col 6)] 5)) := ⟨_, rfl⟩
      rw [← hw6]
      have hg6 : w5.grownBy w6 none := by rw [hw6]; exact (by (repeat (first | exact gb_refl _ _ | assumption | refine gb_drew ?_ | refine gb_drewN ?_ _ | refine gb_alloc ?_ _ | refine gb_setCell ?_ (.inr (by simp <;> omega)) _)))
      have hW6 : CellsAt w6 w5.heap.size [.int .u8 (col 6)] := fun i v hv => by (rw [hw6]; rcases i with _ | i <;> (first | (cases hv; go_simp; done) | (simp at hv; done)))
      have HW6 := hid hW6
      have HA6 := hid (HA5.out.kept0 hg6)
      have HT6 := hid (HT5.out.kept0 hg6)
      have HG6 := hid (gb_trans HG5.out hg6)
      have HO6 := hid (HO5.out.kept0 hg6)
      clear hg6 hW6 hw6 a0 a1 a2 a3 a4 a5 k0 k2 k4 k6
      obtain ⟨b0, hb0⟩ : ∃ b0, ia 0 q0 q1 q2 q3 Xd0 Yd0 Xd1 Yd1 = b0 := ⟨_, rfl⟩
      obtain ⟨b1, hb1⟩ : ∃ b1, ia 1 q0 q1 q2 q3 Xd0 Yd0 Xd1 Yd1 = b1 := ⟨_, rfl⟩
      obtain ⟨b2, hb2⟩ : ∃ b2, ia 2 q0 q1 q2 q3 Xd0 Yd0 Xd1 Yd1 = b2 := ⟨_, rfl⟩
      obtain ⟨b3, hb3⟩ : ∃ b3, ia 3 q0 q1 q2 q3 Xd0 Yd0 Xd1 Yd1 = b3 := ⟨_, rfl⟩
      have Hb := hid (And.intro hb0 (And.intro hb1 (And.intro hb2 hb3)))
      clear hb0 hb1 hb2 hb3
      refine wp_region_inv (JV w6 [some (vR q0 q1 q2 q3), some (vI 2 Xd0 Yd0 Xd1 Yd1 Ad n cd), some (vR Xd0 Yd0 Xd1 Yd1), some (vR b0 b1 b2 b3), none, none] [(4, 5, [.int .i64 b0, .int .i64 b1, .int .i64 b2, .int .i64 b3])]) (fun _ => undef) (by kernel_rfl) (by kernel_rfl) [(0, 68), (1, 69), (2, 70), (3, 71), (4, 12)] (by kernel_rfl) (JV.start (by (repeat (first | exact gb_refl _ _ | assumption | refine gb_drew ?_ | refine gb_drewN ?_ _ | refine gb_alloc ?_ _ | refine gb_setCell ?_ (.inr (by simp <;> omega)) _)))) ?_ ?_
      · refine Steps'.cons [] (by kernel_rfl) ?_ (Steps'.cons [] (by kernel_rfl) ?_ (Steps'.cons [(1, 69)] (by kernel_rfl) ?_ (Steps'.cons [(0, 68), (2, 70)] (by kernel_rfl) ?_ (Steps'.cons [] (by kernel_rfl) ?_ (Steps'.cons [(3, 71), (4, 12)] (by kernel_rfl) ?_ Steps'.nil)))))
        · intro l t w7 hJ hl hd bb hbb K hK
          have f0 := (HT6.out.kept0 hJ.gb) 0 _ rfl
          have f1 := (HT6.out.kept0 hJ.gb) 1 _ rfl
          have f2 := (HT6.out.kept0 hJ.gb) 2 _ rfl
          have f3 := (HT6.out.kept0 hJ.gb) 3 _ rfl
          simp only [puts, Act.put, List.setIfInBounds_toArray, List.set_cons_zero, List.set_cons_succ] at hbb
          subst hbb
          go_simp
          exact hK.out _ _ (hJ.pure (gb_refl _ _) rfl rfl)
        · intro l t w7 hJ hl hd bb hbb K hK
          have f0 := (HA6.out.kept0 hJ.gb) 0 _ rfl
          have f1 := (HA6.out.kept0 hJ.gb) 1 _ rfl
          have f2 := (HA6.out.kept0 hJ.gb) 2 _ rfl
          have f3 := (HA6.out.kept0 hJ.gb) 3 _ rfl
          have f4 := (HA6.out.kept0 hJ.gb) 4 _ rfl
          have f5 := (HA6.out.kept0 hJ.gb) 5 _ rfl
          simp only [puts, Act.put, List.setIfInBounds_toArray, List.set_cons_zero, List.set_cons_succ] at hbb
          subst hbb
          go_simp
          exact hK.out _ _ (hJ.pure (gb_refl _ _) rfl rfl)
        · intro l t w7 hJ hl hd bb hbb K hK
          have e1 := hJ.val 1 _ rfl (hd 1 (by kernel_rfl))
          simp only [puts, Act.put, List.setIfInBounds_toArray, List.set_cons_zero, List.set_cons_succ] at hbb
          rw [e1] at hbb
          subst hbb
          go_simp
          refine (sbounds_c 2 Xd0 Yd0 Xd1 Yd1 Ad n cd _).mono ?_
          rintro e w8 ⟨he, hg⟩
          have he : e = .returned (vR Xd0 Yd0 Xd1 Yd1) := he
          subst he
          exact hK.out _ _ (hJ.pure hg rfl rfl)
        · intro l t w7 hJ hl hd bb hbb K hK
          have e0 := hJ.val 0 _ rfl (hd 0 (by kernel_rfl))
          have e2 := hJ.val 2 _ rfl (hd 2 (by kernel_rfl))
          simp only [puts, Act.put, List.setIfInBounds_toArray, List.set_cons_zero, List.set_cons_succ] at hbb
          rw [e0] at hbb
          rw [e2] at hbb
          subst hbb
          go_simp
          refine (scommon_c q0 q1 q2 q3 Xd0 Yd0 Xd1 Yd1 _).mono ?_
          rintro e w8 ⟨rfl, hg⟩
          rw [isec_ia, Hb.out.1, Hb.out.2.1, Hb.out.2.2.1, Hb.out.2.2.2]
          exact hK.out _ _ (hJ.pure hg rfl rfl)
        · intro l t w7 hJ hl hd bb hbb K hK
          simp only [puts, Act.put, List.setIfInBounds_toArray, List.set_cons_zero, List.set_cons_succ] at hbb
          subst hbb
          go_simp
          exact hK.out _ _ (hJ.alloc (vsOK1 rfl) (C := #[.int .i64 0, .int .i64 0, .int .i64 0, .int .i64 0]) (s := 5) (vals := [.int .i64 b0, .int .i64 b1, .int .i64 b2, .int .i64 b3]) (by simp) rfl hl rfl rfl)
        · intro l t w7 hJ hl hd bb hbb K hK
          obtain ⟨g, eg, -, -, hc⟩ := hJ.open (a := 4) (s := 5) (vals := [.int .i64 b0, .int .i64 b1, .int .i64 b2, .int .i64 b3]) (by simp) (hd 4 (by kernel_rfl))
          obtain ⟨⟨u0, c0⟩, z0⟩ := hc 0 (by simp)
          obtain ⟨⟨u1, c1⟩, z1⟩ := hc 1 (by simp)
          obtain ⟨⟨u2, c2⟩, z2⟩ := hc 2 (by simp)
          obtain ⟨⟨u3, c3⟩, z3⟩ := hc 3 (by simp)
          have e3 := hJ.val 3 _ rfl (hd 3 (by kernel_rfl))
          simp only [puts, Act.put, List.setIfInBounds_toArray, List.set_cons_zero, List.set_cons_succ] at hbb
          rw [e3] at hbb
          rw [eg] at hbb
          subst hbb
          go_simp
          obtain ⟨y1, y2, y3⟩ := st4 c0 c1 c2 c3
          exact hK.out undef _ (hJ.store (u := undef) (vsOK1 rfl) (a := 4) (vals := [.int .i64 b0, .int .i64 b1, .int .i64 b2, .int .i64 b3]) (by simp) rfl (hd 4 (by kernel_rfl)) eg y1 y2 y3)
      intro l t wc hJ hl
      obtain ⟨g, e4, -, -, hgc⟩ := hJ.var (a := 4) (s := 5) (vals := [.int .i64 b0, .int .i64 b1, .int .i64 b2, .int .i64 b3]) (by simp) (hl 4 (by decide)) (hl 5 (by decide))
      have hgw := hJ.gb
      have HCg : Hid (CellsAt wc g [.int .i64 b0, .int .i64 b1, .int .i64 b2, .int .i64 b3]) := hid hgc
      have HAc := hid (HA6.out.kept0 hgw)
      have HWc := hid (HW6.out.kept0 hgw)
      have HGc := hid (gb_trans HG6.out hgw)
      have HOc := hid (HO6.out.kept0 hgw)
      clear hJ hl hgc hgw
      simp only [puts, Act.put, List.setIfInBounds_toArray, List.set_cons_zero, List.set_cons_succ]
      rw [e4]
      clear e4
      have a0 := HAc.out 0 _ rfl
      have a1 := HAc.out 1 _ rfl
      have a2 := HAc.out 2 _ rfl
      have a3 := HAc.out 3 _ rfl
      have a4 := HAc.out 4 _ rfl
      go_wp2_with fail
      refine (size_c 2 (by omega) _).mono ?_
      rintro e wz ⟨he, rfl⟩
      have he : e = .returned (.int .i64 1) := he
      subst he
      go_wp2_with fail
      clear a0 a1 a2 a3 a4
      have a1 := HAc.out 1 _ rfl
      have a2 := HAc.out 2 _ rfl
      have a3 := HAc.out 3 _ rfl
      have a4 := HAc.out 4 _ rfl
      have zA := World.block_lt_of_cell? wc _ a1
      have zC := HCg.out.lt
      go_loopw [15, 14] (fun u v wr => ∃ (j i : Nat), j ≤ dh ∧ i = (j * dw) * 1 ∧ u = .int .i64 (Yd0 + (j : Int)) ∧ v = .int .i64 (i : Int) ∧ wc.grownBy wr none) (fun u _ _ => (Yd1 - intOf u).toNat)
      case atStart => exact ⟨0, 0, by omega, by omega, by first | rfl | (congr 1; omega), rfl, gb_refl _ _⟩
      case round =>
      obtain ⟨j, i, hj, hi, rfl, rfl, hgr⟩ := hrel
      obtain ⟨-, gx, gy, gm, gw, gh, v1, v2, v3, v4⟩ := HGD.out
      have HR := hid hgr
      have a1r := (gb_cell0 hgr zA).trans a1
      have a2r := (gb_cell0 hgr (p := ⟨w.heap.size, 2, none⟩) zA).trans a2
      have a3r := (gb_cell0 hgr (p := ⟨w.heap.size, 3, none⟩) zA).trans a3
      have a4r := (gb_cell0 hgr (p := ⟨w.heap.size, 4, none⟩) zA).trans a4
      have hib : i ≤ 200000 := by rw [hi]; have := Nat.mul_le_mul hj (Nat.le_refl dw); have := Nat.mul_le_mul gh gw; omega
      have Hi := hid hi
      clear hi hgr gm
      by_cases hlt : j < dh
      · have t1 : Yd0 + (j : Int) < Yd1 := by omega
        clear gx gy
        go_wp2_with fail
        obtain ⟨wo, hwo⟩ : ∃ wo : World, wo = wr := ⟨_, rfl⟩
        go_loopw [16, 14] (fun u v wr => ∃ (c i : Nat), c ≤ dw ∧ i = (j * dw + c) * 1 ∧ u = .int .i64 (Xd0 + (c : Int)) ∧ v = .int .i64 (i : Int) ∧ wc.grownBy wr none) (fun u _ _ => (Xd1 - intOf u).toNat)
        case atStart => exact ⟨0, i, by omega, Hi.out, by first | rfl | (congr 1; omega), rfl, HR.out⟩
        case round =>
        clear hwo wo a1r a2r a3r a4r HR
        obtain ⟨c, i', hc, hi', rfl, rfl, hgr⟩ := hrel
        have HR := hid hgr
        have a1r := (gb_cell0 hgr zA).trans a1
        have a2r := (gb_cell0 hgr (p := ⟨w.heap.size, 2, none⟩) zA).trans a2
        have a3r := (gb_cell0 hgr (p := ⟨w.heap.size, 3, none⟩) zA).trans a3
        have a4r := (gb_cell0 hgr (p := ⟨w.heap.size, 4, none⟩) zA).trans a4
        have HCr := hid (HCg.out.kept0 hgr)
        obtain ⟨-, gx, gy, gm, gw, gh, v1, v2, v3, v4⟩ := HGD.out
        have hib2 : i' ≤ 200000 := by rw [hi']; have := Nat.mul_le_mul hj (Nat.le_refl dw); have := Nat.mul_le_mul gh gw; omega
        have Hi2 := hid hi'
        by_cases hlc : c < dw
        · have t2 : Xd0 + (c : Int) < Xd1 := by omega
          have hfit : i' + 1 ≤ n := by
            have h1 := row_fits (wd := dw) (k := 1) (r := j) (m := c * 1 + 1) hlt (by omega)
            have h2 : (j * dw + c) * 1 = j * (dw * 1) + c * 1 := by rw [Nat.add_mul, Nat.mul_assoc]
            have h3 : n = dh * (dw * 1) := gm
            rw [hi', h2, h3]; omega
          obtain ⟨g', hA, hnc, hcc5, hcell⟩ := own_at (HOc.out.kept0 hgr) (by omega)
          subst hA
          have Hcell := hid hcell
          have s1 : IntKind.i64.wrap ((i' : Int) + 1) = (i' : Int) + 1 := IntWalk.i64_in _ (by omega)
          have s2 : (0 : Int) ≤ (i' : Int) + 1 := by omega
          have s3 : (i' : Int) + 1 ≤ (c5 : Int) := by omega
          have s4 : ((i' : Int) + 1).toNat = i' + 1 := by omega
          have s6 : ¬ (c5 = i') := by omega
          have s7 : (i' : Int) ≤ (i' : Int) + 1 := by omega
          have HGX := hid (And.intro gx hlc)
          clear hi' hgr gm hcell gy gx
          by_cases hin : b0 ≤ Xd0 + (c : Int) ∧ Xd0 + (c : Int) < b2 ∧ b1 ≤ Yd0 + (j : Int) ∧ Yd0 + (j : Int) < b3
          · have Hin := hid hin
            obtain ⟨Z, hZ⟩ : ∃ Z, strOfNums (byL 1 (cut1 2 col)) = Z := ⟨_, rfl⟩
            have HZ := hid hZ
            have hsame : ∀ ch, ch < 1 → wr.cell? ⟨g', i' + ch, none⟩ = some (.int .u8 (cut1 2 col ch)) := fun ch hch => by
              rw [Hcell.out (i' + ch) (by omega), Hi2.out]
              have hI : In0 q0 q1 q2 q3 0 0 Xd0 Yd0 (-1000000000) (-1000000000) 2000000000 2000000000 j c := by
                have := ia_in Hb.out hin
                have h2 := HNR.out
                have h3 := HGD.out.2
                unfold nr at h2
                unfold In0
                omega
              have e := res_atk (k := 2) (dw := dw) (r := j) (c := c) (ch := ch) (F := fun r c => px0 2 6 1 (toP dw (sz 2) p r c) (srcAt 6 2000000000 col q0 q1 0 0 Xd0 Yd0 (-1000000000) (-1000000000) r c)) (p := p) hlc hch hI
              have e2 : srcAt 6 2000000000 col q0 q1 0 0 Xd0 Yd0 (-1000000000) (-1000000000) j c = col := by unfold srcAt srcP; rw [if_pos rfl]
              try dsimp only at e
              rw [e2, one_px (by omega) HB.out] at e
              exact congrArg (fun x => some (Value.int .u8 x)) e
            have hwant : ∀ ch, ch < 1 → wr.cell? ⟨w5.heap.size, ch, none⟩ = some (.int .u8 (cut1 2 col ch)) := fun ch hch => (HWc.out.kept0 HR.out) ch _ (by
              have : ch = 0 := by omega
              rcases this with rfl <;> rfl)
            have Hsame := hid hsame
            have Hwant := hid hwant
            clear hsame hwant hin hZ
            go_wp2_with fail
            refine wp_region_invg (JV wr [some (vR b0 b1 b2 b3), some (.int .i64 (Xd0 + (c : Int))), some (.int .i64 (Yd0 + (j : Int))), some (.bool true), some (.bool true), some ((Value.slice (some ⟨g', 0, none⟩) n c5)), some ((.int .i64 (i' : Int))), some ((.int .i64 (i' : Int))), some (.int .i64 1), some (.int .i64 ((i' : Int) + 1)), some ((Value.slice (some ⟨g', i', none⟩) 1 (c5 - i'))), some (.string Z), some ((Value.slice (some ⟨w5.heap.size, 0, none⟩) 1 1)), some (.string Z), some (.bool false), some (.bool false)] []) (fun _ => undef) (by kernel_rfl) (by kernel_rfl) (by kernel_rfl) [(0, 91), (1, 92), (2, 93), (3, 94), (4, 95), (5, 96), (6, 97), (7, 98), (8, 99), (9, 100), (10, 101), (11, 102), (12, 103), (13, 104), (14, 105), (15, 106)] (by kernel_rfl) (JV.start (by (repeat (first | exact gb_refl _ _ | assumption | refine gb_drew ?_ | refine gb_drewN ?_ _ | refine gb_alloc ?_ _ | refine gb_setCell ?_ (.inr (by simp <;> omega)) _)))) ?_ ?_
            · refine StepsG.cons [] (by kernel_rfl) ?_ (StepsG.cons [] (by kernel_rfl) ?_ (StepsG.cons [] (by kernel_rfl) ?_ (StepsG.cons [(0, 91), (1, 92), (2, 93)] (by kernel_rfl) ?_ (StepsG.cons [(3, 94)] (by kernel_rfl) ?_ (StepsG.cons [] (by kernel_rfl) ?_ (StepsG.cons [] (by kernel_rfl) ?_ (StepsG.cons [] (by kernel_rfl) ?_ (StepsG.cons [] (by kernel_rfl) ?_ (StepsG.cons [(7, 98), (8, 99)] (by kernel_rfl) ?_ (StepsG.cons [(5, 96), (6, 97), (9, 100)] (by kernel_rfl) ?_ (StepsG.cons [(10, 101)] (by kernel_rfl) ?_ (StepsG.cons [] (by kernel_rfl) ?_ (StepsG.cons [(12, 103)] (by kernel_rfl) ?_ (StepsG.cons [(11, 102), (13, 104)] (by kernel_rfl) ?_ (StepsG.cons [(4, 95), (14, 105)] (by kernel_rfl) ?_ (StepsG.nil))))))))))))))))
              · intro l t w7 hJ hl hd
                refine ⟨fun hw bb hbb K hK => ?_, fun hw => ?_⟩
                · clear hw
                  have x0 := (HCr.out.kept0 hJ.gb) 0 _ rfl
                  have x1 := (HCr.out.kept0 hJ.gb) 1 _ rfl
                  have x2 := (HCr.out.kept0 hJ.gb) 2 _ rfl
                  have x3 := (HCr.out.kept0 hJ.gb) 3 _ rfl
                  simp only [puts, Act.put, List.setIfInBounds_toArray, List.set_cons_zero, List.set_cons_succ] at hbb
                  subst hbb
                  go_simp
                  exact hK.out _ _ (hJ.pure (gb_refl _ _) rfl rfl)
                · exact Bool.noConfusion (show true = false from hw)
              · intro l t w7 hJ hl hd
                refine ⟨fun hw bb hbb K hK => ?_, fun hw => ?_⟩
                · clear hw
                  simp only [puts, Act.put, List.setIfInBounds_toArray, List.set_cons_zero, List.set_cons_succ] at hbb
                  subst hbb
                  go_simp
                  exact hK.out _ _ (hJ.pure (gb_refl _ _) rfl rfl)
                · exact Bool.noConfusion (show true = false from hw)
              · intro l t w7 hJ hl hd
                refine ⟨fun hw bb hbb K hK => ?_, fun hw => ?_⟩
                · clear hw
                  simp only [puts, Act.put, List.setIfInBounds_toArray, List.set_cons_zero, List.set_cons_succ] at hbb
                  subst hbb
                  go_simp
                  exact hK.out _ _ (hJ.pure (gb_refl _ _) rfl rfl)
                · exact Bool.noConfusion (show true = false from hw)
              · intro l t w7 hJ hl hd
                refine ⟨fun hw bb hbb K hK => ?_, fun hw => ?_⟩
                · clear hw
                  have f0 := hJ.val 0 _ rfl (hd 0 (by kernel_rfl))
                  have f1 := hJ.val 1 _ rfl (hd 1 (by kernel_rfl))
                  have f2 := hJ.val 2 _ rfl (hd 2 (by kernel_rfl))
                  simp only [puts, Act.put, List.setIfInBounds_toArray, List.set_cons_zero, List.set_cons_succ] at hbb
                  rw [f0] at hbb
                  rw [f1] at hbb
                  rw [f2] at hbb
                  subst hbb
                  go_simp
                  refine (shas_y b0 b1 b2 b3 _ _ _ Hin.out.1 Hin.out.2.1 Hin.out.2.2.1 Hin.out.2.2.2).mono ?_
                  rintro e w8 ⟨rfl, hg⟩
                  exact hK.out _ _ (hJ.pure hg rfl rfl)
                · exact Bool.noConfusion (show true = false from hw)
              · intro l t w7 hJ hl hd
                refine ⟨fun hw bb hbb K hK => ?_, fun hw => ?_⟩
                · clear hw
                  have f3 := hJ.val 3 _ rfl (hd 3 (by kernel_rfl))
                  simp only [puts, Act.put, List.setIfInBounds_toArray, List.set_cons_zero, List.set_cons_succ] at hbb
                  rw [f3] at hbb
                  subst hbb
                  go_simp
                  exact hK.out _ _ (hJ.pure (gb_refl _ _) rfl rfl)
                · exact Bool.noConfusion (show true = false from hw)
              · intro l t w7 hJ hl hd
                have e4 := hJ.val 4 _ rfl (hd 4 (by kernel_rfl))
                refine ⟨fun hw bb hbb K hK => ?_, fun hw => ?_⟩
                · clear hw
                  simp only [puts, Act.put, List.setIfInBounds_toArray, List.set_cons_zero, List.set_cons_succ] at hbb
                  subst hbb
                  go_simp
                  exact hK.out _ _ (hJ.pure (gb_refl _ _) rfl rfl)
                · unfold wantL at hw
                  simp only [e4] at hw
                  exact absurd hw (by decide)
              · intro l t w7 hJ hl hd
                have e4 := hJ.val 4 _ rfl (hd 4 (by kernel_rfl))
                refine ⟨fun hw bb hbb K hK => ?_, fun hw => ?_⟩
                · clear hw
                  simp only [puts, Act.put, List.setIfInBounds_toArray, List.set_cons_zero, List.set_cons_succ] at hbb
                  subst hbb
                  go_simp
                  exact hK.out _ _ (hJ.pure (gb_refl _ _) rfl rfl)
                · unfold wantL at hw
                  simp only [e4] at hw
                  exact absurd hw (by decide)
              · intro l t w7 hJ hl hd
                have e4 := hJ.val 4 _ rfl (hd 4 (by kernel_rfl))
                refine ⟨fun hw bb hbb K hK => ?_, fun hw => ?_⟩
                · clear hw
                  simp only [puts, Act.put, List.setIfInBounds_toArray, List.set_cons_zero, List.set_cons_succ] at hbb
                  subst hbb
                  go_simp
                  exact hK.out _ _ (hJ.pure (gb_refl _ _) rfl rfl)
                · unfold wantL at hw
                  simp only [e4] at hw
                  exact absurd hw (by decide)
              · intro l t w7 hJ hl hd
                have e4 := hJ.val 4 _ rfl (hd 4 (by kernel_rfl))
                refine ⟨fun hw bb hbb K hK => ?_, fun hw => ?_⟩
                · clear hw
                  simp only [puts, Act.put, List.setIfInBounds_toArray, List.set_cons_zero, List.set_cons_succ] at hbb
                  subst hbb
                  go_simp
                  exact hK.out _ _ (hJ.pure (gb_refl _ _) rfl rfl)
                · unfold wantL at hw
                  simp only [e4] at hw
                  exact absurd hw (by decide)
              · intro l t w7 hJ hl hd
                have e4 := hJ.val 4 _ rfl (hd 4 (by kernel_rfl))
                refine ⟨fun hw bb hbb K hK => ?_, fun hw => ?_⟩
                · clear hw
                  have f7 := hJ.val 7 _ rfl (hd 7 (by kernel_rfl))
                  have f8 := hJ.val 8 _ rfl (hd 8 (by kernel_rfl))
                  simp only [puts, Act.put, List.setIfInBounds_toArray, List.set_cons_zero, List.set_cons_succ] at hbb
                  rw [f7] at hbb
                  rw [f8] at hbb
                  subst hbb
                  go_simp
                  exact hK.out _ _ (hJ.pure (gb_refl _ _) rfl rfl)
                · unfold wantL at hw
                  simp only [e4] at hw
                  exact absurd hw (by decide)
              · intro l t w7 hJ hl hd
                have e4 := hJ.val 4 _ rfl (hd 4 (by kernel_rfl))
                refine ⟨fun hw bb hbb K hK => ?_, fun hw => ?_⟩
                · clear hw
                  have f5 := hJ.val 5 _ rfl (hd 5 (by kernel_rfl))
                  have f6 := hJ.val 6 _ rfl (hd 6 (by kernel_rfl))
                  have f9 := hJ.val 9 _ rfl (hd 9 (by kernel_rfl))
                  simp only [puts, Act.put, List.setIfInBounds_toArray, List.set_cons_zero, List.set_cons_succ] at hbb
                  rw [f5] at hbb
                  rw [f6] at hbb
                  rw [f9] at hbb
                  subst hbb
                  go_simp
                  exact hK.out _ _ (hJ.pure (gb_refl _ _) rfl rfl)
                · unfold wantL at hw
                  simp only [e4] at hw
                  exact absurd hw (by decide)
              · intro l t w7 hJ hl hd
                have e4 := hJ.val 4 _ rfl (hd 4 (by kernel_rfl))
                refine ⟨fun hw bb hbb K hK => ?_, fun hw => ?_⟩
                · clear hw
                  have f10 := hJ.val 10 _ rfl (hd 10 (by kernel_rfl))
                  have z1 := convN (w := w7) (A := ⟨g', i', none⟩) (n := 1) (f := cut1 2 col) (c5 - i') (fun ch hch => by (have ad : (⟨g', i', none⟩ : Addr).add ch = ⟨g', i' + ch, none⟩ := by unfold Addr.add; by_cases h : ch = 0 <;> simp [h]); rw [ad]; exact (gb_cell0 hJ.gb (World.block_lt_of_cell? wr _ (Hsame.out ch hch))).trans (Hsame.out ch hch))
                  rw [HZ.out] at z1
                  simp only [puts, Act.put, List.setIfInBounds_toArray, List.set_cons_zero, List.set_cons_succ] at hbb
                  rw [f10] at hbb
                  subst hbb
                  go_simp
                  exact hK.out _ _ (hJ.pure (gb_refl _ _) rfl rfl)
                · unfold wantL at hw
                  simp only [e4] at hw
                  exact absurd hw (by decide)
              · intro l t w7 hJ hl hd
                have e4 := hJ.val 4 _ rfl (hd 4 (by kernel_rfl))
                refine ⟨fun hw bb hbb K hK => ?_, fun hw => ?_⟩
                · clear hw
                  simp only [puts, Act.put, List.setIfInBounds_toArray, List.set_cons_zero, List.set_cons_succ] at hbb
                  subst hbb
                  go_simp
                  exact hK.out _ _ (hJ.pure (gb_refl _ _) rfl rfl)
                · unfold wantL at hw
                  simp only [e4] at hw
                  exact absurd hw (by decide)
              · intro l t w7 hJ hl hd
                have e4 := hJ.val 4 _ rfl (hd 4 (by kernel_rfl))
                refine ⟨fun hw bb hbb K hK => ?_, fun hw => ?_⟩
                · clear hw
                  have f12 := hJ.val 12 _ rfl (hd 12 (by kernel_rfl))
                  have z1 := convN (w := w7) (A := ⟨w5.heap.size, 0, none⟩) (n := 1) (f := cut1 2 col) 1 (fun ch hch => by (have ad : (⟨w5.heap.size, 0, none⟩ : Addr).add ch = ⟨w5.heap.size, ch, none⟩ := by unfold Addr.add; by_cases h : ch = 0 <;> simp [h]); rw [ad]; exact (gb_cell0 hJ.gb (World.block_lt_of_cell? wr _ (Hwant.out ch hch))).trans (Hwant.out ch hch))
                  rw [HZ.out] at z1
                  simp only [puts, Act.put, List.setIfInBounds_toArray, List.set_cons_zero, List.set_cons_succ] at hbb
                  rw [f12] at hbb
                  subst hbb
                  go_simp
                  exact hK.out _ _ (hJ.pure (gb_refl _ _) rfl rfl)
                · unfold wantL at hw
                  simp only [e4] at hw
                  exact absurd hw (by decide)
              · intro l t w7 hJ hl hd
                have e4 := hJ.val 4 _ rfl (hd 4 (by kernel_rfl))
                refine ⟨fun hw bb hbb K hK => ?_, fun hw => ?_⟩
                · clear hw
                  have f11 := hJ.val 11 _ rfl (hd 11 (by kernel_rfl))
                  have f13 := hJ.val 13 _ rfl (hd 13 (by kernel_rfl))
                  simp only [puts, Act.put, List.setIfInBounds_toArray, List.set_cons_zero, List.set_cons_succ] at hbb
                  rw [f11] at hbb
                  rw [f13] at hbb
                  subst hbb
                  go_simp
                  exact hK.out _ _ (hJ.pure (gb_refl _ _) rfl rfl)
                · unfold wantL at hw
                  simp only [e4] at hw
                  exact absurd hw (by decide)
              · intro l t w7 hJ hl hd
                refine ⟨fun hw bb hbb K hK => ?_, fun hw => ?_⟩
                · clear hw
                  have f4 := hJ.val 4 _ rfl (hd 4 (by kernel_rfl))
                  have f14 := hJ.val 14 _ rfl (hd 14 (by kernel_rfl))
                  simp only [puts, Act.put, List.setIfInBounds_toArray, List.set_cons_zero, List.set_cons_succ] at hbb
                  rw [f4] at hbb
                  rw [f14] at hbb
                  subst hbb
                  go_simp
                  exact hK.out _ _ (hJ.pure (gb_refl _ _) rfl rfl)
                · exact Bool.noConfusion (show true = false from hw)
            intro l t w7 hJ hl
            have e15 := hJ.val 15 _ rfl (hl 15 (by decide))
            have HB7 := hid hJ.gb
            clear hJ hl
            simp only [puts, Act.put, List.setIfInBounds_toArray, List.set_cons_zero, List.set_cons_succ]
            rw [e15]
            clear e15
            go_wp2_with fail
            exact ⟨⟨c + 1, i' + 1, by omega, by have h := Hi2.out; rw [← Nat.add_assoc, Nat.add_mul (j * dw + c) 1]; omega, by first | rfl | (congr 1; push_cast; omega), by first | rfl | (congr 1; push_cast; omega), gb_trans HR.out HB7.out⟩, by have := HGX.out; simp [intOf]; omega⟩
          · have Hin := hid hin
            clear hin
            go_wp2_with fail
            refine wp_region_invg (JV wr [some (vR b0 b1 b2 b3), some (.int .i64 (Xd0 + (c : Int))), some (.int .i64 (Yd0 + (j : Int))), some (.bool false), some (.bool false), some (undef), some (undef), some (undef), some (undef), some (undef), some (undef), some (undef), some (undef), some (undef), some (undef), some (.bool false)] []) (fun _ => undef) (by kernel_rfl) (by kernel_rfl) (by kernel_rfl) [(0, 91), (1, 92), (2, 93), (3, 94), (4, 95), (5, 96), (6, 97), (7, 98), (8, 99), (9, 100), (10, 101), (11, 102), (12, 103), (13, 104), (14, 105), (15, 106)] (by kernel_rfl) (JV.start (by (repeat (first | exact gb_refl _ _ | assumption | refine gb_drew ?_ | refine gb_drewN ?_ _ | refine gb_alloc ?_ _ | refine gb_setCell ?_ (.inr (by simp <;> omega)) _)))) ?_ ?_
            · refine StepsG.cons [] (by kernel_rfl) ?_ (StepsG.cons [] (by kernel_rfl) ?_ (StepsG.cons [] (by kernel_rfl) ?_ (StepsG.cons [(0, 91), (1, 92), (2, 93)] (by kernel_rfl) ?_ (StepsG.cons [(3, 94)] (by kernel_rfl) ?_ (StepsG.cons [] (by kernel_rfl) ?_ (StepsG.cons [] (by kernel_rfl) ?_ (StepsG.cons [] (by kernel_rfl) ?_ (StepsG.cons [] (by kernel_rfl) ?_ (StepsG.cons [(7, 98), (8, 99)] (by kernel_rfl) ?_ (StepsG.cons [(5, 96), (6, 97), (9, 100)] (by kernel_rfl) ?_ (StepsG.cons [(10, 101)] (by kernel_rfl) ?_ (StepsG.cons [] (by kernel_rfl) ?_ (StepsG.cons [(12, 103)] (by kernel_rfl) ?_ (StepsG.cons [(11, 102), (13, 104)] (by kernel_rfl) ?_ (StepsG.cons [(4, 95), (14, 105)] (by kernel_rfl) ?_ (StepsG.nil))))))))))))))))
              · intro l t w7 hJ hl hd
                refine ⟨fun hw bb hbb K hK => ?_, fun hw => ?_⟩
                · clear hw
                  have x0 := (HCr.out.kept0 hJ.gb) 0 _ rfl
                  have x1 := (HCr.out.kept0 hJ.gb) 1 _ rfl
                  have x2 := (HCr.out.kept0 hJ.gb) 2 _ rfl
                  have x3 := (HCr.out.kept0 hJ.gb) 3 _ rfl
                  simp only [puts, Act.put, List.setIfInBounds_toArray, List.set_cons_zero, List.set_cons_succ] at hbb
                  subst hbb
                  go_simp
                  exact hK.out _ _ (hJ.pure (gb_refl _ _) rfl rfl)
                · exact Bool.noConfusion (show true = false from hw)
              · intro l t w7 hJ hl hd
                refine ⟨fun hw bb hbb K hK => ?_, fun hw => ?_⟩
                · clear hw
                  simp only [puts, Act.put, List.setIfInBounds_toArray, List.set_cons_zero, List.set_cons_succ] at hbb
                  subst hbb
                  go_simp
                  exact hK.out _ _ (hJ.pure (gb_refl _ _) rfl rfl)
                · exact Bool.noConfusion (show true = false from hw)
              · intro l t w7 hJ hl hd
                refine ⟨fun hw bb hbb K hK => ?_, fun hw => ?_⟩
                · clear hw
                  simp only [puts, Act.put, List.setIfInBounds_toArray, List.set_cons_zero, List.set_cons_succ] at hbb
                  subst hbb
                  go_simp
                  exact hK.out _ _ (hJ.pure (gb_refl _ _) rfl rfl)
                · exact Bool.noConfusion (show true = false from hw)
              · intro l t w7 hJ hl hd
                refine ⟨fun hw bb hbb K hK => ?_, fun hw => ?_⟩
                · clear hw
                  have f0 := hJ.val 0 _ rfl (hd 0 (by kernel_rfl))
                  have f1 := hJ.val 1 _ rfl (hd 1 (by kernel_rfl))
                  have f2 := hJ.val 2 _ rfl (hd 2 (by kernel_rfl))
                  simp only [puts, Act.put, List.setIfInBounds_toArray, List.set_cons_zero, List.set_cons_succ] at hbb
                  rw [f0] at hbb
                  rw [f1] at hbb
                  rw [f2] at hbb
                  subst hbb
                  go_simp
                  refine (shas_n b0 b1 b2 b3 _ _ _ Hin.out).mono ?_
                  rintro e w8 ⟨rfl, hg⟩
                  exact hK.out _ _ (hJ.pure hg rfl rfl)
                · exact Bool.noConfusion (show true = false from hw)
              · intro l t w7 hJ hl hd
                refine ⟨fun hw bb hbb K hK => ?_, fun hw => ?_⟩
                · clear hw
                  have f3 := hJ.val 3 _ rfl (hd 3 (by kernel_rfl))
                  simp only [puts, Act.put, List.setIfInBounds_toArray, List.set_cons_zero, List.set_cons_succ] at hbb
                  rw [f3] at hbb
                  subst hbb
                  go_simp
                  exact hK.out _ _ (hJ.pure (gb_refl _ _) rfl rfl)
                · exact Bool.noConfusion (show true = false from hw)
              · intro l t w7 hJ hl hd
                have e4 := hJ.val 4 _ rfl (hd 4 (by kernel_rfl))
                refine ⟨fun hw => ?_, fun hw => hJ.pure (gb_refl _ _) rfl rfl⟩
                unfold wantL at hw
                simp only [e4] at hw
                exact absurd hw (by decide)
              · intro l t w7 hJ hl hd
                have e4 := hJ.val 4 _ rfl (hd 4 (by kernel_rfl))
                refine ⟨fun hw => ?_, fun hw => hJ.pure (gb_refl _ _) rfl rfl⟩
                unfold wantL at hw
                simp only [e4] at hw
                exact absurd hw (by decide)
              · intro l t w7 hJ hl hd
                have e4 := hJ.val 4 _ rfl (hd 4 (by kernel_rfl))
                refine ⟨fun hw => ?_, fun hw => hJ.pure (gb_refl _ _) rfl rfl⟩
                unfold wantL at hw
                simp only [e4] at hw
                exact absurd hw (by decide)
              · intro l t w7 hJ hl hd
                have e4 := hJ.val 4 _ rfl (hd 4 (by kernel_rfl))
                refine ⟨fun hw => ?_, fun hw => hJ.pure (gb_refl _ _) rfl rfl⟩
                unfold wantL at hw
                simp only [e4] at hw
                exact absurd hw (by decide)
              · intro l t w7 hJ hl hd
                have e4 := hJ.val 4 _ rfl (hd 4 (by kernel_rfl))
                refine ⟨fun hw => ?_, fun hw => hJ.pure (gb_refl _ _) rfl rfl⟩
                unfold wantL at hw
                simp only [e4] at hw
                exact absurd hw (by decide)
              · intro l t w7 hJ hl hd
                have e4 := hJ.val 4 _ rfl (hd 4 (by kernel_rfl))
                refine ⟨fun hw => ?_, fun hw => hJ.pure (gb_refl _ _) rfl rfl⟩
                unfold wantL at hw
                simp only [e4] at hw
                exact absurd hw (by decide)
              · intro l t w7 hJ hl hd
                have e4 := hJ.val 4 _ rfl (hd 4 (by kernel_rfl))
                refine ⟨fun hw => ?_, fun hw => hJ.pure (gb_refl _ _) rfl rfl⟩
                unfold wantL at hw
                simp only [e4] at hw
                exact absurd hw (by decide)
              · intro l t w7 hJ hl hd
                have e4 := hJ.val 4 _ rfl (hd 4 (by kernel_rfl))
                refine ⟨fun hw => ?_, fun hw => hJ.pure (gb_refl _ _) rfl rfl⟩
                unfold wantL at hw
                simp only [e4] at hw
                exact absurd hw (by decide)
              · intro l t w7 hJ hl hd
                have e4 := hJ.val 4 _ rfl (hd 4 (by kernel_rfl))
                refine ⟨fun hw => ?_, fun hw => hJ.pure (gb_refl _ _) rfl rfl⟩
                unfold wantL at hw
                simp only [e4] at hw
                exact absurd hw (by decide)
              · intro l t w7 hJ hl hd
                have e4 := hJ.val 4 _ rfl (hd 4 (by kernel_rfl))
                refine ⟨fun hw => ?_, fun hw => hJ.pure (gb_refl _ _) rfl rfl⟩
                unfold wantL at hw
                simp only [e4] at hw
                exact absurd hw (by decide)
              · intro l t w7 hJ hl hd
                refine ⟨fun hw bb hbb K hK => ?_, fun hw => ?_⟩
                · clear hw
                  have f4 := hJ.val 4 _ rfl (hd 4 (by kernel_rfl))
                  have f14 := hJ.val 14 _ rfl (hd 14 (by kernel_rfl))
                  simp only [puts, Act.put, List.setIfInBounds_toArray, List.set_cons_zero, List.set_cons_succ] at hbb
                  rw [f4] at hbb
                  rw [f14] at hbb
                  subst hbb
                  go_simp
                  exact hK.out _ _ (hJ.pure (gb_refl _ _) rfl rfl)
                · exact Bool.noConfusion (show true = false from hw)
            intro l t w7 hJ hl
            have e15 := hJ.val 15 _ rfl (hl 15 (by decide))
            have HB7 := hid hJ.gb
            clear hJ hl
            simp only [puts, Act.put, List.setIfInBounds_toArray, List.set_cons_zero, List.set_cons_succ]
            rw [e15]
            clear e15
            go_wp2_with fail
            exact ⟨⟨c + 1, i' + 1, by omega, by have h := Hi2.out; rw [← Nat.add_assoc, Nat.add_mul (j * dw + c) 1]; omega, by first | rfl | (congr 1; push_cast; omega), by first | rfl | (congr 1; push_cast; omega), gb_trans HR.out HB7.out⟩, by have := HGX.out; simp [intOf]; omega⟩
        · have t2 : ¬ (Xd0 + (c : Int) < Xd1) := by omega
          have hcd : c = dw := by omega
          have HGY := hid gy
          clear hi' hgr gm gy gx
          go_wp2_with fail
          exact ⟨⟨j + 1, i', by omega, by have h := Hi2.out; rw [hcd] at h; rw [h, Nat.add_mul j 1 dw, Nat.one_mul], by first | rfl | (congr 1; push_cast; omega), rfl, HR.out⟩, by have := HGY.out; simp [intOf]; omega⟩
      · have t1 : ¬ (Yd0 + (j : Int) < Yd1) := by omega
        clear gx gy gw gh v1 v2 v3 v4
        go_wp2_with fail
        go_ret
        exact ⟨rfl, gb_trans HGc.out HR.out⟩
  · go_enter Tryz.func8, Tryz.ntmps8
    go_wp2_with fail
    refine (fits_n _ hn).mono ?_
    rintro e w1 ⟨rfl, hg⟩
    have HG1 := hid (gb_trans (gb_alloc (gb_alloc (gb_alloc (gb_refl w none) _) _) _) hg)
    clear hg
    go_wp2_with fail
    go_ret
    exact ⟨rfl, HG1.out⟩
end Go.Proofs.YtgjpohmjkhgpfaaGreat
