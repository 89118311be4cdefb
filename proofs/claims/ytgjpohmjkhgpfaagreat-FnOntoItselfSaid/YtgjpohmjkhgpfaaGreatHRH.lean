/- A drawn region by an invariant, its guarded operations too: each operation is walked once, in whatever order they come. No condition. -/
import Derived.Test.YtgjpohmjkhgpfaaGreatD03
set_option linter.unusedSimpArgs false
set_option linter.unusedVariables false
namespace Go.Proofs.YtgjpohmjkhgpfaaGreat
open Go

/-- is the operation wanted, by the values so far? -/
def wantL (t : Nat → Value) (o : Oper) : Bool := match o.guard with
  | none => true
  | some (j, want) => (match t j with | .bool b => some b | _ => none) == some want
def regOKg (os : List Oper) : Bool :=
  os.all (fun o => (match o.guard with | none => true | some (j, _) => bindsOn o j && (dstAt os j).isSome) && (match o.op with | .select .. => false | _ => true) && (depList os o).all fun p => bindsOn o p.1) &&
  (allList os).all (fun p => (allList os).all fun q => p.2 != q.2 || p.1 == q.1) &&
  (List.range os.length).all fun i => match os[i]? with
    | some o => o.after.toList.all fun e => !(Region.binds .any e) || decide (e.on < i)
    | none => true

section
variable {P : Program} {Q : Exit → Act → World → Prop}
def StepG (P : Program) (J : (Nat → Bool) → (Nat → Value) → World → Prop) (Q : Exit → Act → World → Prop) (a : Act) (i : Nat) (o : Oper) (ds : List (Nat × Nat)) : Prop :=
  ∀ l t w, J l t w → l i = false → (∀ j, bindsOn o j = true → l j = true) →
    (wantL t o = true → ∀ b : Act, b = puts t ds a → ∀ K : Act → World → Prop, Kept (∀ v w', J (upd l i true) (upd t i v) w' → K (b.put o.dst v) w') → o.wp P b w K Q) ∧
    (wantL t o = false → J (upd l i true) (upd t i undef) w)
def StepsG (P : Program) (os : List Oper) (J : (Nat → Bool) → (Nat → Value) → World → Prop) (Q : Exit → Act → World → Prop) (a : Act) : Nat → List Oper → Prop
  | _, [] => True
  | i, o :: rest => StepG P J Q a i o (depList os o) ∧ StepsG P os J Q a (i + 1) rest
theorem StepsG.nil {os J a i} : StepsG P os J Q a i [] := trivial
theorem StepsG.cons {os : List Oper} {J : (Nat → Bool) → (Nat → Value) → World → Prop} {a : Act} {i : Nat} {o : Oper} {rest : List Oper} (ds : List (Nat × Nat)) (hds : depList os o = ds) (h : StepG P J Q a i o ds) (hr : StepsG P os J Q a (i + 1) rest) : StepsG P os J Q a i (o :: rest) := by
  subst hds
  exact ⟨h, hr⟩
theorem StepsG.at {os : List Oper} {J : (Nat → Bool) → (Nat → Value) → World → Prop} {a : Act} : ∀ {rest : List Oper} {k : Nat}, StepsG P os J Q a k rest → ∀ i o, rest[i]? = some o → StepG P J Q a (k + i) o (depList os o)
  | [], _, _, i, o, h => by simp at h
  | p :: rest, k, hs, 0, o, h => by
    have : p = o := by simpa using h
    subst this
    exact hs.1
  | p :: rest, k, hs, i + 1, o, h => by
    have := StepsG.at hs.2 i o (by simpa using h)
    rw [show k + (i + 1) = k + 1 + i by omega]
    exact this

theorem wpAny_invg {os : List Oper} {J : (Nat → Bool) → (Nat → Value) → World → Prop} {a : Act} (hok : regOKg os = true) (hsz : (allList os).all (fun p => decide (p.2 < a.tmps.size)) = true)
    (hQ : ∀ c (a a' : Act) w, Q (.panic c) a w → Q (.panic c) a' w)
    (hs : StepsG P os J Q a 0 os)
    (hd : ∀ l t w, J l t w → (∀ j, j < os.length → l j = true) → Q .normal (puts t (allList os) a) w) :
    ∀ (fuel : Nat) (listed : Array Bool) (l : Nat → Bool) (t : Nat → Value) (b : Act) (w : World),
      (∀ j, j < os.length → listed[j]? = some (l j)) → (List.range os.length).countP (fun j => !(l j)) ≤ fuel → Fr os l t a b → J l t w →
      wpAny P .any os.toArray Q fuel listed b w := by
  simp only [regOKg, Bool.and_eq_true, List.all_eq_true] at hok
  obtain ⟨⟨hok1, hok2⟩, hok3⟩ := hok
  have hdd : ∀ i j d, dstAt os i = some d → dstAt os j = some d → i = j := fun i j d hi hj => by
    have := hok2 _ (mem_all.2 hi) _ (mem_all.2 hj)
    simpa using this
  have hget : ∀ i : Nat, os.toArray[i]? = os[i]? := fun i => by simp
  have hready : ∀ (listed : Array Bool) (l : Nat → Bool), (∀ j, j < os.length → listed[j]? = some (l j)) → ∀ i, i ∈ Region.ready .any os.toArray listed →
      ∃ o, os[i]? = some o ∧ i < os.length ∧ l i = false ∧ ∀ j, bindsOn o j = true → l j = true := by
    intro listed l hl i hi
    obtain ⟨h0, o, ho, hall⟩ := mem_ready.1 hi
    rw [hget] at ho
    have hlt := (List.getElem?_eq_some_iff.1 ho).1
    refine ⟨o, ho, hlt, ?_, fun j hj => ?_⟩
    · rw [Array.getD_eq_getD_getElem?, hl i hlt] at h0; exact h0
    · obtain ⟨e, he, hb⟩ := List.any_eq_true.1 hj
      simp only [Bool.and_eq_true, beq_iff_eq] at hb
      obtain ⟨hb, rfl⟩ := hb
      have h1 := hall e (Array.mem_toList_iff.1 he) hb
      have h3 := hok3 i (List.mem_range.2 hlt)
      rw [ho] at h3
      have h4 := List.all_eq_true.1 h3 e he
      rw [hb] at h4
      simp only [Bool.not_true, Bool.false_or, decide_eq_true_eq] at h4
      rw [Array.getD_eq_getD_getElem?, hl _ (by omega)] at h1
      exact h1
  have hfull : ∀ (listed : Array Bool) (l : Nat → Bool), (∀ j, j < os.length → listed[j]? = some (l j)) → Region.ready .any os.toArray listed = [] → ∀ i, i < os.length → l i = true := by
    intro listed l hl hr i
    induction i using Nat.strongRecOn with
    | ind i ih =>
      intro hi
      cases hli : l i with
      | true => rfl
      | false =>
        exfalso
        have : i ∈ Region.ready .any os.toArray listed := by
          refine mem_ready.2 ⟨?_, os[i], ?_, fun e he hb => ?_⟩
          · rw [Array.getD_eq_getD_getElem?, hl i hi, hli]; rfl
          · rw [hget]; exact List.getElem?_eq_getElem hi
          · have h3 := hok3 i (List.mem_range.2 hi)
            rw [List.getElem?_eq_getElem hi] at h3
            have h4 := List.all_eq_true.1 h3 e (Array.mem_toList_iff.2 he)
            rw [hb] at h4
            simp only [Bool.not_true, Bool.false_or, decide_eq_true_eq] at h4
            rw [Array.getD_eq_getD_getElem?, hl _ (by omega), ih _ h4 (by omega)]
            rfl
        rw [hr] at this
        cases this
  have hstep : ∀ (listed : Array Bool) (l : Nat → Bool) (t : Nat → Value) (b : Act) (w : World), (∀ j, j < os.length → listed[j]? = some (l j)) → Fr os l t a b → J l t w → ∀ i, i ∈ Region.ready .any os.toArray listed →
      ∀ K : Act → World → Prop, (∀ v w' o, os[i]? = some o → l i = false → J (upd l i true) (upd t i v) w' → Fr os (upd l i true) (upd t i v) a (b.put o.dst v) → K (b.put o.dst v) w') → wpOp P os.toArray Q i K b w := by
    intro listed l t b w hl hF hJ i hi K hK
    obtain ⟨o, ho, hlt, hli, hdep⟩ := hready listed l hl i hi
    have hmem : o ∈ os := List.mem_of_getElem? ho
    have h1 := hok1 o hmem
    obtain ⟨⟨hg, hsel⟩, hcov⟩ := h1
    have hcov' : ∀ p ∈ depList os o, l p.1 = true := fun p hp => hdep _ (hcov p hp)
    have hw : Region.wanted o (yielded os.toArray b.tmps) = wantL t o := by
      unfold Region.wanted wantL
      cases hgg : o.guard with
      | none => rfl
      | some g =>
        obtain ⟨g, want⟩ := g
        rw [hgg] at hg
        simp only [Bool.and_eq_true] at hg
        cases hdg : dstAt os g with
        | none => rw [hdg] at hg; cases hg.2
        | some d =>
          have hlt' : d < a.tmps.size := by
            have := List.all_eq_true.1 hsz _ (mem_all.2 hdg)
            simpa using this
          have hh := hF.hit g d hdg (hdep _ hg.1) hlt'
          have hy : yielded os.toArray b.tmps g = (match t g with | .bool b => some b | _ => none) := by
            unfold yielded
            obtain ⟨p, hp, hpd⟩ := dstAt_some.1 hdg
            rw [hget, hp]
            simp only [Option.bind_some, hpd, hh]
            cases t g <;> rfl
          show (yielded os.toArray b.tmps g == some want) = _
          rw [hy]
    have hns : ∀ cs d, o.op ≠ .select cs d := fun cs d e => by rw [e] at hsel; cases hsel
    have hdst : dstAt os i = o.dst := by unfold dstAt; rw [ho]
    have hst := hs.at i o ho
    rw [Nat.zero_add] at hst
    unfold wpOp
    rw [hget, ho]
    simp only [hw]
    cases hwl : wantL t o with
    | true =>
      simp only [if_true]
      refine .inl (wp_frame (a := puts t (depList os o) a) (R := fun v w' => J (upd l i true) (upd t i v) w') (execOp_congr o hns fun x hx => hF.eval hdd hcov' hx) ?_ hQ ?_ ?_)
      · rw [puts_size]; exact hF.size
      · intro v w' hJ'
        exact hK v w' o ho hli hJ' (hF.put hdd hdst hli)
      · exact (hst l t w hJ hli hdep).1 hwl _ rfl _ (fun v w' hJ' => ⟨v, rfl, hJ'⟩)
    | false =>
      simp only [Bool.false_eq_true, if_false]
      exact hK undef w o ho hli ((hst l t w hJ hli hdep).2 hwl) (hF.put hdd hdst hli)
  intro fuel
  induction fuel with
  | zero =>
    intro listed l t b w hl hc hF hJ
    have hr : Region.ready .any os.toArray listed = [] := by
      apply List.eq_nil_iff_forall_not_mem.2
      intro i hi
      obtain ⟨o, ho, hlt, hli, -⟩ := hready listed l hl i hi
      have := cnt_lt (List.range os.length) (List.mem_range.2 hlt) hli
      omega
    have hall := hfull listed l hl hr
    refine ⟨hr, ?_⟩
    rw [hF.all hdd hall]
    exact hd l t w hJ hall
  | succ fuel ih =>
    intro listed l t b w hl hc hF hJ
    refine ⟨fun hr => ?_, fun i hi => ?_⟩
    · have hall := hfull listed l hl hr
      rw [hF.all hdd hall]
      exact hd l t w hJ hall
    · refine hstep listed l t b w hl hF hJ i hi _ fun v w' o ho hli hJ' hF' => ?_
      have hlt := (List.getElem?_eq_some_iff.1 ho).1
      refine ih _ (upd l i true) (upd t i v) _ w' (fun j hj => ?_) ?_ hF' hJ'
      · by_cases hji : j = i
        · subst hji
          rw [upd_same]
          have hsz : j < listed.size := by
            rcases Nat.lt_or_ge j listed.size with h | h
            · exact h
            · have := hl j hj; rw [Array.getElem?_eq_none h] at this; cases this
          simp [hsz]
        · rw [upd_ne _ _ hji, Array.getElem?_setIfInBounds_ne (Ne.symm hji)]
          exact hl j hj
      · have := cnt_lt (List.range os.length) (List.mem_range.2 hlt) hli
        omega

/-- the region is shown not to panic -/
theorem wp_region_invg {id : Nat} {os : List Oper} {a : Act} {w : World} (J : (Nat → Bool) → (Nat → Value) → World → Prop) (t0 : Nat → Value) (hm : P.follows .mixedOrders = true) (hok : regOKg os = true)
    (hsz : (allList os).all (fun p => decide (p.2 < a.tmps.size)) = true) (dl : List (Nat × Nat)) (hdl : allList os = dl)
    (h0 : J (fun _ => false) t0 w.drew)
    (hs : StepsG P os J (NoPanic Q) a 0 os)
    (hd : ∀ l t w, J l t w → (∀ j, j < os.length → l j = true) → Q .normal (puts t dl a) w) : (Code.region id os.toArray true).wp P Q a w := by
  subst hdl
  refine wp_region_noPanic (wp_region_any hm (wpAny_invg (J := J) hok hsz (fun _ _ _ _ h => h) hs (fun l t w hJ hl => NoPanic.normal (hd l t w hJ hl)) _ _ (fun _ => false) t0 _ _ (fun j hj => ?_) ?_ (Fr.refl fun _ => rfl) h0))
  · simp [hj]
  · refine Nat.le_trans (List.countP_le_length) ?_
    simp
end
end Go.Proofs.YtgjpohmjkhgpfaaGreat
