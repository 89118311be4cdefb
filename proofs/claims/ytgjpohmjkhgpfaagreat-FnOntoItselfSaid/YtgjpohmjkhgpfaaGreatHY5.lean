/- image/draw: processBackward of an image onto itself; what 'not backward' and 'backward' say of the pixels. The numbers are small. -/
import Derived.Test.YtgjpohmjkhgpfaaGreatD16
import Derived.Test.YtgjpohmjkhgpfaaGreatHW10f
import Derived.Test.YtgjpohmjkhgpfaaGreatHRH
import Derived.Test.YtgjpohmjkhgpfaaGreatD14
set_option linter.unusedSimpArgs false
set_option linter.unusedVariables false
namespace Go.Proofs.YtgjpohmjkhgpfaaGreat
open Go.RowKit

theorem eq_selft {tp te : TypeId} {a : Addr} (w : World) (hp : Tryz.prog.underlying tp = some (.pointer te)) (h1 : (Tryz.prog.info? tp).map (·.comparable) = some true) (h2 : (Tryz.prog.info? te).map (fun j => decide (j.size ≠ 0)) = some true) :
    (binOp .eql 72 (.iface tp (.pointer (some a))) (.iface tp (.pointer (some a)))).run Tryz.prog w = .ok (.bool true) w := by
  cases hi : Tryz.prog.info? tp with
  | none => rw [hi] at h1; cases h1
  | some i =>
    cases hj : Tryz.prog.info? te with
    | none => rw [hj] at h2; cases h2
    | some j =>
      rw [hi] at h1
      exact run_eql_iface_ptr_same w a Tryz.underlying72 hp hi (by simpa using h1) hj
theorem eq_self {w0 : World} {bd pd dh dw kd : Nat} {dx0 dy0 : Int} {D : Nat → Nat → Nat → Int} {td : TypeId} (H : Src w0 bd pd dh dw dx0 dy0 D kd td) (hk : kd = 2 ∨ kd = 4) (w : World) :
    (binOp .eql 72 (.iface td (.pointer (some ⟨bd, 0, none⟩))) (.iface td (.pointer (some ⟨bd, 0, none⟩)))).run Tryz.prog w = .ok (.bool true) w := by
  cases H <;> (first | omega | skip)
  · exact eq_selft w Tryz.underlying90 (by kernel_rfl) (by kernel_rfl)
  · exact eq_selft w Tryz.underlying94 (by kernel_rfl) (by kernel_rfl)

theorem notback {dh dw rx ry xe ye sx sy : Nat} {dx0 dy0 b0 b1 b2 b3 p0 p1 : Int} (hR : Rct b0 b1 b2 b3 dx0 dy0 rx ry xe ye dh dw) (hP : Plc p0 p1 dx0 dy0 sx sy rx ry xe ye dh dw)
    (h : gback (ovl b0 b1 b2 b3 (b0 + (p0 - b0)) (b1 + (p1 - b1)) (b2 + (p0 - b0)) (b3 + (p1 - b1))) b0 b1 p0 p1 = false) :
    (ry < sy ∨ (ry = sy ∧ rx ≤ sx)) ∨ (xe ≤ sx ∨ sx + (xe - rx) ≤ rx ∨ ye ≤ sy ∨ sy + (ye - ry) ≤ ry) := by
  obtain ⟨f1, f2, f3, f4, l1, l2, l3, l4⟩ := hR
  obtain ⟨f5, f6, l5, l6⟩ := hP
  unfold gback ovl emp at h
  simp only [Bool.and_eq_false_iff, Bool.or_eq_false_iff, Bool.not_eq_false', Bool.or_eq_true, decide_eq_true_eq, decide_eq_false_iff_not, beq_eq_false_iff_ne] at h
  omega
theorem isback {dh dw rx ry xe ye sx sy : Nat} {dx0 dy0 b0 b1 b2 b3 p0 p1 : Int} (hR : Rct b0 b1 b2 b3 dx0 dy0 rx ry xe ye dh dw) (hP : Plc p0 p1 dx0 dy0 sx sy rx ry xe ye dh dw)
    (h : gback (ovl b0 b1 b2 b3 (b0 + (p0 - b0)) (b1 + (p1 - b1)) (b2 + (p0 - b0)) (b3 + (p1 - b1))) b0 b1 p0 p1 = true) : sy < ry ∨ (sy = ry ∧ sx < rx) := by
  obtain ⟨f1, f2, f3, f4, l1, l2, l3, l4⟩ := hR
  obtain ⟨f5, f6, l5, l6⟩ := hP
  unfold gback at h
  simp only [Bool.and_eq_true, Bool.or_eq_true, decide_eq_true_eq, beq_iff_eq] at h
  omega

set_option maxRecDepth 100000 in
set_option maxHeartbeats 16000000 in
theorem pbs_c {w0 w : World} {bd pd dh dw kd : Nat} {dx0 dy0 b0 b1 b2 b3 p0 p1 : Int} {D : Nat → Nat → Nat → Int} {td : TypeId} (Hd : Src w0 bd pd dh dw dx0 dy0 D kd td) (hk : kd = 2 ∨ kd = 4) (hg : w0.grownBy w none)
    (hb : (-9000 ≤ b0 ∧ b0 ≤ 9000 ∧ -9000 ≤ b1 ∧ b1 ≤ 9000) ∧ (-9000 ≤ b2 ∧ b2 ≤ 9000 ∧ -9000 ≤ b3 ∧ b3 ≤ 9000) ∧ (-9000 ≤ p0 ∧ p0 ≤ 9000 ∧ -9000 ≤ p1 ∧ p1 ≤ 9000)) :
    Calls Tryz.prog 69 #[.iface td (.pointer (some ⟨bd, 0, none⟩)), vR b0 b1 b2 b3, .iface td (.pointer (some ⟨bd, 0, none⟩)), vP p0 p1] w
      fun e w' => e = .returned (.bool (gback (ovl b0 b1 b2 b3 (b0 + (p0 - b0)) (b1 + (p1 - b1)) (b2 + (p0 - b0)) (b3 + (p1 - b1))) b0 b1 p0 p1)) ∧ w.grownBy w' none := by
  have HE := hid (fun w' => eq_self Hd hk w')
  clear Hd hk hg
  obtain ⟨ov, hov⟩ : ∃ ov, ovl b0 b1 b2 b3 (b0 + (p0 - b0)) (b1 + (p1 - b1)) (b2 + (p0 - b0)) (b3 + (p1 - b1)) = ov := ⟨_, rfl⟩
  have HO := hid hov
  clear hov
  obtain ⟨h1, h2, h3⟩ := hb
  go_enter Tryz.func69, Tryz.ntmps69
  go_upto_region 1 with fail
  obtain ⟨w1, hw1⟩ : ∃ w1 : World, w1 = ((w.alloc (.cells #[.int .i64 b0, .int .i64 b1, .int .i64 b2, .int .i64 b3] 78)).alloc (.cells #[.int .i64 p0, .int .i64 p1] 76)) := ⟨_, rfl⟩
  rw [← hw1]
  have HG : Hid (w.grownBy w1 none) := hid (by rw [hw1]; exact gb_alloc (gb_alloc (gb_refl _ _) _) _)
  have cR : CellsAt w1 w.heap.size [.int .i64 b0, .int .i64 b1, .int .i64 b2, .int .i64 b3] := fun i v hv => by (rw [hw1]; rcases i with _ | _ | _ | _ | i <;> (first | (cases hv; go_simp; done) | (simp at hv; done)))
  have cP : CellsAt w1 (w.heap.size + 1) [.int .i64 p0, .int .i64 p1] := fun i v hv => by (rw [hw1]; rcases i with _ | _ | i <;> (first | (cases hv; go_simp; done) | (simp at hv; done)))
  have HR := hid cR
  have HP := hid cP
  clear cR cP hw1
  cases ov
  · skip
    refine wp_region_invg (JV w1 [some (.iface td (.pointer (some ⟨bd, 0, none⟩))), some (.iface td (.pointer (some ⟨bd, 0, none⟩))), some (.bool true), some (.bool true), some (vR b0 b1 b2 b3), some (vR b0 b1 b2 b3), some (vP p0 p1), some (.pointer (some ⟨w.heap.size, 0, none⟩)), some (vP b0 b1), some (vP (p0 - b0) (p1 - b1)), some (vR (b0 + (p0 - b0)) (b1 + (p1 - b1)) (b2 + (p0 - b0)) (b3 + (p1 - b1))), some (.bool false), some (.bool false), some (.bool false), some (undef), some (undef), some (undef), some (undef), some (undef), some (undef), some (undef), some (undef), some (undef), some (undef), some (undef), some (undef), some (undef), some (undef), some (undef), some (undef), some (undef), some (undef), some (undef), some (undef), some (undef), some (undef), some (.bool false), some (.bool false)] []) (fun _ => undef) (by kernel_rfl) (by kernel_rfl) (by kernel_rfl) [(0, 9), (1, 10), (2, 11), (3, 12), (4, 13), (5, 14), (6, 15), (7, 16), (8, 17), (9, 18), (10, 19), (11, 20), (12, 21), (13, 22), (14, 23), (15, 24), (16, 25), (17, 26), (18, 27), (19, 28), (20, 29), (21, 30), (22, 31), (23, 32), (24, 33), (25, 34), (26, 35), (27, 36), (28, 37), (29, 38), (30, 39), (31, 40), (32, 41), (33, 42), (34, 43), (35, 44), (36, 45), (37, 8)] (by kernel_rfl) (JV.start (by (repeat (first | exact gb_refl _ _ | refine gb_drew ?_)))) ?_ ?_
    · refine StepsG.cons [] (by kernel_rfl) ?_ (StepsG.cons [] (by kernel_rfl) ?_ (StepsG.cons [(0, 9), (1, 10)] (by kernel_rfl) ?_ (StepsG.cons [(2, 11)] (by kernel_rfl) ?_ (StepsG.cons [] (by kernel_rfl) ?_ (StepsG.cons [] (by kernel_rfl) ?_ (StepsG.cons [] (by kernel_rfl) ?_ (StepsG.cons [] (by kernel_rfl) ?_ (StepsG.cons [(7, 16)] (by kernel_rfl) ?_ (StepsG.cons [(6, 15), (8, 17)] (by kernel_rfl) ?_ (StepsG.cons [(5, 14), (9, 18)] (by kernel_rfl) ?_ (StepsG.cons [(4, 13), (10, 19)] (by kernel_rfl) ?_ (StepsG.cons [(3, 12), (11, 20)] (by kernel_rfl) ?_ (StepsG.cons [(12, 21)] (by kernel_rfl) ?_ (StepsG.cons [] (by kernel_rfl) ?_ (StepsG.cons [(14, 23)] (by kernel_rfl) ?_ (StepsG.cons [] (by kernel_rfl) ?_ (StepsG.cons [(16, 25)] (by kernel_rfl) ?_ (StepsG.cons [(17, 26)] (by kernel_rfl) ?_ (StepsG.cons [(15, 24), (18, 27)] (by kernel_rfl) ?_ (StepsG.cons [(19, 28)] (by kernel_rfl) ?_ (StepsG.cons [] (by kernel_rfl) ?_ (StepsG.cons [(21, 30)] (by kernel_rfl) ?_ (StepsG.cons [] (by kernel_rfl) ?_ (StepsG.cons [(23, 32)] (by kernel_rfl) ?_ (StepsG.cons [(24, 33)] (by kernel_rfl) ?_ (StepsG.cons [(22, 31), (25, 34)] (by kernel_rfl) ?_ (StepsG.cons [(26, 35)] (by kernel_rfl) ?_ (StepsG.cons [] (by kernel_rfl) ?_ (StepsG.cons [(28, 37)] (by kernel_rfl) ?_ (StepsG.cons [] (by kernel_rfl) ?_ (StepsG.cons [(30, 39)] (by kernel_rfl) ?_ (StepsG.cons [(31, 40)] (by kernel_rfl) ?_ (StepsG.cons [(29, 38), (32, 41)] (by kernel_rfl) ?_ (StepsG.cons [(27, 36), (33, 42)] (by kernel_rfl) ?_ (StepsG.cons [(20, 29), (34, 43)] (by kernel_rfl) ?_ (StepsG.cons [(13, 22), (35, 44)] (by kernel_rfl) ?_ (StepsG.cons [(36, 45)] (by kernel_rfl) ?_ (StepsG.nil))))))))))))))))))))))))))))))))))))))
      · intro l t w7 hJ hl hd
        refine ⟨fun hw bb hbb K hK => ?_, fun hw => ?_⟩
        · clear hw
          simp only [puts, Act.put, List.setIfInBounds_toArray, List.set_cons_zero, List.set_cons_succ] at hbb
          subst hbb
          go_simp
          exact hK.out _ _ (hJ.pure (gb_refl _ _) rfl rfl)
        · exact Bool.noConfusion (show true = false from hw)
      · intro l t w7 hJ hl hd
        refine ⟨fun hw bb hbb K hK => ?_, fun hw => ?_⟩
        · clear hw
          simp only [puts, Act.put, List.setIfInBounds_toArray, List.set_cons_zero, List.set_cons_succ] at hbb
          subst hbb
          go_simp
          exact hK.out _ _ (hJ.pure (gb_refl _ _) rfl rfl)
        · exact Bool.noConfusion (show true = false from hw)
      · intro l t w7 hJ hl hd
        refine ⟨fun hw bb hbb K hK => ?_, fun hw => ?_⟩
        · clear hw
          have e0 := hJ.val 0 _ rfl (hd 0 (by kernel_rfl))
          have e1 := hJ.val 1 _ rfl (hd 1 (by kernel_rfl))
          have hEw := HE.out w7
          simp only [puts, Act.put, List.setIfInBounds_toArray, List.set_cons_zero, List.set_cons_succ] at hbb
          rw [e0] at hbb
          rw [e1] at hbb
          subst hbb
          go_simp
          exact hK.out _ _ (hJ.pure (gb_refl _ _) rfl rfl)
        · exact Bool.noConfusion (show true = false from hw)
      · intro l t w7 hJ hl hd
        refine ⟨fun hw bb hbb K hK => ?_, fun hw => ?_⟩
        · clear hw
          have e2 := hJ.val 2 _ rfl (hd 2 (by kernel_rfl))
          simp only [puts, Act.put, List.setIfInBounds_toArray, List.set_cons_zero, List.set_cons_succ] at hbb
          rw [e2] at hbb
          subst hbb
          go_simp
          exact hK.out _ _ (hJ.pure (gb_refl _ _) rfl rfl)
        · exact Bool.noConfusion (show true = false from hw)
      · intro l t w7 hJ hl hd
        have eg := hJ.val 3 _ rfl (hd 3 (by kernel_rfl))
        refine ⟨fun hw bb hbb K hK => ?_, fun hw => ?_⟩
        · clear hw
          have x0 := (HR.out.kept0 hJ.gb) 0 _ rfl
          have x1 := (HR.out.kept0 hJ.gb) 1 _ rfl
          have x2 := (HR.out.kept0 hJ.gb) 2 _ rfl
          have x3 := (HR.out.kept0 hJ.gb) 3 _ rfl
          simp only [puts, Act.put, List.setIfInBounds_toArray, List.set_cons_zero, List.set_cons_succ] at hbb
          subst hbb
          go_simp
          exact hK.out _ _ (hJ.pure (gb_refl _ _) rfl rfl)
        · unfold wantL at hw
          simp only [eg] at hw
          exact absurd hw (by decide)
      · intro l t w7 hJ hl hd
        have eg := hJ.val 3 _ rfl (hd 3 (by kernel_rfl))
        refine ⟨fun hw bb hbb K hK => ?_, fun hw => ?_⟩
        · clear hw
          have x0 := (HR.out.kept0 hJ.gb) 0 _ rfl
          have x1 := (HR.out.kept0 hJ.gb) 1 _ rfl
          have x2 := (HR.out.kept0 hJ.gb) 2 _ rfl
          have x3 := (HR.out.kept0 hJ.gb) 3 _ rfl
          simp only [puts, Act.put, List.setIfInBounds_toArray, List.set_cons_zero, List.set_cons_succ] at hbb
          subst hbb
          go_simp
          exact hK.out _ _ (hJ.pure (gb_refl _ _) rfl rfl)
        · unfold wantL at hw
          simp only [eg] at hw
          exact absurd hw (by decide)
      · intro l t w7 hJ hl hd
        have eg := hJ.val 3 _ rfl (hd 3 (by kernel_rfl))
        refine ⟨fun hw bb hbb K hK => ?_, fun hw => ?_⟩
        · clear hw
          have x0 := (HP.out.kept0 hJ.gb) 0 _ rfl
          have x1 := (HP.out.kept0 hJ.gb) 1 _ rfl
          simp only [puts, Act.put, List.setIfInBounds_toArray, List.set_cons_zero, List.set_cons_succ] at hbb
          subst hbb
          go_simp
          exact hK.out _ _ (hJ.pure (gb_refl _ _) rfl rfl)
        · unfold wantL at hw
          simp only [eg] at hw
          exact absurd hw (by decide)
      · intro l t w7 hJ hl hd
        have eg := hJ.val 3 _ rfl (hd 3 (by kernel_rfl))
        refine ⟨fun hw bb hbb K hK => ?_, fun hw => ?_⟩
        · clear hw
          simp only [puts, Act.put, List.setIfInBounds_toArray, List.set_cons_zero, List.set_cons_succ] at hbb
          subst hbb
          go_simp
          exact hK.out _ _ (hJ.pure (gb_refl _ _) rfl rfl)
        · unfold wantL at hw
          simp only [eg] at hw
          exact absurd hw (by decide)
      · intro l t w7 hJ hl hd
        have eg := hJ.val 3 _ rfl (hd 3 (by kernel_rfl))
        refine ⟨fun hw bb hbb K hK => ?_, fun hw => ?_⟩
        · clear hw
          have e7 := hJ.val 7 _ rfl (hd 7 (by kernel_rfl))
          have x0 := (HR.out.kept0 hJ.gb) 0 _ rfl
          have x1 := (HR.out.kept0 hJ.gb) 1 _ rfl
          have x2 := (HR.out.kept0 hJ.gb) 2 _ rfl
          have x3 := (HR.out.kept0 hJ.gb) 3 _ rfl
          simp only [puts, Act.put, List.setIfInBounds_toArray, List.set_cons_zero, List.set_cons_succ] at hbb
          rw [e7] at hbb
          subst hbb
          go_simp
          exact hK.out _ _ (hJ.pure (gb_refl _ _) rfl rfl)
        · unfold wantL at hw
          simp only [eg] at hw
          exact absurd hw (by decide)
      · intro l t w7 hJ hl hd
        have eg := hJ.val 3 _ rfl (hd 3 (by kernel_rfl))
        refine ⟨fun hw bb hbb K hK => ?_, fun hw => ?_⟩
        · clear hw
          have e6 := hJ.val 6 _ rfl (hd 6 (by kernel_rfl))
          have e8 := hJ.val 8 _ rfl (hd 8 (by kernel_rfl))
          simp only [puts, Act.put, List.setIfInBounds_toArray, List.set_cons_zero, List.set_cons_succ] at hbb
          rw [e6] at hbb
          rw [e8] at hbb
          subst hbb
          go_simp
          refine (sub_c p0 p1 b0 b1 _ (by unfold sm; omega) (by unfold sm; omega) (by unfold sm; omega) (by unfold sm; omega)).mono ?_
          rintro e w8 ⟨rfl, hg⟩
          exact hK.out _ _ (hJ.pure hg rfl rfl)
        · unfold wantL at hw
          simp only [eg] at hw
          exact absurd hw (by decide)
      · intro l t w7 hJ hl hd
        have eg := hJ.val 3 _ rfl (hd 3 (by kernel_rfl))
        refine ⟨fun hw bb hbb K hK => ?_, fun hw => ?_⟩
        · clear hw
          have e5 := hJ.val 5 _ rfl (hd 5 (by kernel_rfl))
          have e9 := hJ.val 9 _ rfl (hd 9 (by kernel_rfl))
          simp only [puts, Act.put, List.setIfInBounds_toArray, List.set_cons_zero, List.set_cons_succ] at hbb
          rw [e5] at hbb
          rw [e9] at hbb
          subst hbb
          go_simp
          refine (add_c b0 b1 b2 b3 (p0 - b0) (p1 - b1) _ (by unfold sm; omega) (by unfold sm; omega) (by unfold sm; omega) (by unfold sm; omega) (by unfold sm; omega) (by unfold sm; omega)).mono ?_
          rintro e w8 ⟨rfl, hg⟩
          exact hK.out _ _ (hJ.pure hg rfl rfl)
        · unfold wantL at hw
          simp only [eg] at hw
          exact absurd hw (by decide)
      · intro l t w7 hJ hl hd
        have eg := hJ.val 3 _ rfl (hd 3 (by kernel_rfl))
        refine ⟨fun hw bb hbb K hK => ?_, fun hw => ?_⟩
        · clear hw
          have e4 := hJ.val 4 _ rfl (hd 4 (by kernel_rfl))
          have e10 := hJ.val 10 _ rfl (hd 10 (by kernel_rfl))
          simp only [puts, Act.put, List.setIfInBounds_toArray, List.set_cons_zero, List.set_cons_succ] at hbb
          rw [e4] at hbb
          rw [e10] at hbb
          subst hbb
          go_simp
          refine (overlaps_c b0 b1 b2 b3 (b0 + (p0 - b0)) (b1 + (p1 - b1)) (b2 + (p0 - b0)) (b3 + (p1 - b1)) _).mono ?_
          rintro e w8 ⟨rfl, hg⟩
          rw [HO.out]
          exact hK.out _ _ (hJ.pure hg rfl rfl)
        · unfold wantL at hw
          simp only [eg] at hw
          exact absurd hw (by decide)
      · intro l t w7 hJ hl hd
        refine ⟨fun hw bb hbb K hK => ?_, fun hw => ?_⟩
        · clear hw
          have e3 := hJ.val 3 _ rfl (hd 3 (by kernel_rfl))
          have e11 := hJ.val 11 _ rfl (hd 11 (by kernel_rfl))
          simp only [puts, Act.put, List.setIfInBounds_toArray, List.set_cons_zero, List.set_cons_succ] at hbb
          rw [e3] at hbb
          rw [e11] at hbb
          subst hbb
          go_simp
          exact hK.out _ _ (hJ.pure (gb_refl _ _) rfl rfl)
        · exact Bool.noConfusion (show true = false from hw)
      · intro l t w7 hJ hl hd
        refine ⟨fun hw bb hbb K hK => ?_, fun hw => ?_⟩
        · clear hw
          have e12 := hJ.val 12 _ rfl (hd 12 (by kernel_rfl))
          simp only [puts, Act.put, List.setIfInBounds_toArray, List.set_cons_zero, List.set_cons_succ] at hbb
          rw [e12] at hbb
          subst hbb
          go_simp
          exact hK.out _ _ (hJ.pure (gb_refl _ _) rfl rfl)
        · exact Bool.noConfusion (show true = false from hw)
      · intro l t w7 hJ hl hd
        have eg := hJ.val 13 _ rfl (hd 13 (by kernel_rfl))
        refine ⟨fun hw => ?_, fun hw => hJ.pure (gb_refl _ _) rfl rfl⟩
        unfold wantL at hw
        simp only [eg] at hw
        exact absurd hw (by decide)
      · intro l t w7 hJ hl hd
        have eg := hJ.val 13 _ rfl (hd 13 (by kernel_rfl))
        refine ⟨fun hw => ?_, fun hw => hJ.pure (gb_refl _ _) rfl rfl⟩
        unfold wantL at hw
        simp only [eg] at hw
        exact absurd hw (by decide)
      · intro l t w7 hJ hl hd
        have eg := hJ.val 13 _ rfl (hd 13 (by kernel_rfl))
        refine ⟨fun hw => ?_, fun hw => hJ.pure (gb_refl _ _) rfl rfl⟩
        unfold wantL at hw
        simp only [eg] at hw
        exact absurd hw (by decide)
      · intro l t w7 hJ hl hd
        have eg := hJ.val 13 _ rfl (hd 13 (by kernel_rfl))
        refine ⟨fun hw => ?_, fun hw => hJ.pure (gb_refl _ _) rfl rfl⟩
        unfold wantL at hw
        simp only [eg] at hw
        exact absurd hw (by decide)
      · intro l t w7 hJ hl hd
        have eg := hJ.val 13 _ rfl (hd 13 (by kernel_rfl))
        refine ⟨fun hw => ?_, fun hw => hJ.pure (gb_refl _ _) rfl rfl⟩
        unfold wantL at hw
        simp only [eg] at hw
        exact absurd hw (by decide)
      · intro l t w7 hJ hl hd
        have eg := hJ.val 13 _ rfl (hd 13 (by kernel_rfl))
        refine ⟨fun hw => ?_, fun hw => hJ.pure (gb_refl _ _) rfl rfl⟩
        unfold wantL at hw
        simp only [eg] at hw
        exact absurd hw (by decide)
      · intro l t w7 hJ hl hd
        have eg := hJ.val 13 _ rfl (hd 13 (by kernel_rfl))
        refine ⟨fun hw => ?_, fun hw => hJ.pure (gb_refl _ _) rfl rfl⟩
        unfold wantL at hw
        simp only [eg] at hw
        exact absurd hw (by decide)
      · intro l t w7 hJ hl hd
        have eg := hJ.val 20 _ rfl (hd 20 (by kernel_rfl))
        refine ⟨fun hw => ?_, fun hw => hJ.pure (gb_refl _ _) rfl rfl⟩
        unfold wantL at hw
        simp only [eg] at hw
        exact absurd hw (by decide)
      · intro l t w7 hJ hl hd
        have eg := hJ.val 20 _ rfl (hd 20 (by kernel_rfl))
        refine ⟨fun hw => ?_, fun hw => hJ.pure (gb_refl _ _) rfl rfl⟩
        unfold wantL at hw
        simp only [eg] at hw
        exact absurd hw (by decide)
      · intro l t w7 hJ hl hd
        have eg := hJ.val 20 _ rfl (hd 20 (by kernel_rfl))
        refine ⟨fun hw => ?_, fun hw => hJ.pure (gb_refl _ _) rfl rfl⟩
        unfold wantL at hw
        simp only [eg] at hw
        exact absurd hw (by decide)
      · intro l t w7 hJ hl hd
        have eg := hJ.val 20 _ rfl (hd 20 (by kernel_rfl))
        refine ⟨fun hw => ?_, fun hw => hJ.pure (gb_refl _ _) rfl rfl⟩
        unfold wantL at hw
        simp only [eg] at hw
        exact absurd hw (by decide)
      · intro l t w7 hJ hl hd
        have eg := hJ.val 20 _ rfl (hd 20 (by kernel_rfl))
        refine ⟨fun hw => ?_, fun hw => hJ.pure (gb_refl _ _) rfl rfl⟩
        unfold wantL at hw
        simp only [eg] at hw
        exact absurd hw (by decide)
      · intro l t w7 hJ hl hd
        have eg := hJ.val 20 _ rfl (hd 20 (by kernel_rfl))
        refine ⟨fun hw => ?_, fun hw => hJ.pure (gb_refl _ _) rfl rfl⟩
        unfold wantL at hw
        simp only [eg] at hw
        exact absurd hw (by decide)
      · intro l t w7 hJ hl hd
        have eg := hJ.val 20 _ rfl (hd 20 (by kernel_rfl))
        refine ⟨fun hw => ?_, fun hw => hJ.pure (gb_refl _ _) rfl rfl⟩
        unfold wantL at hw
        simp only [eg] at hw
        exact absurd hw (by decide)
      · intro l t w7 hJ hl hd
        have eg := hJ.val 27 _ rfl (hd 27 (by kernel_rfl))
        refine ⟨fun hw => ?_, fun hw => hJ.pure (gb_refl _ _) rfl rfl⟩
        unfold wantL at hw
        simp only [eg] at hw
        exact absurd hw (by decide)
      · intro l t w7 hJ hl hd
        have eg := hJ.val 27 _ rfl (hd 27 (by kernel_rfl))
        refine ⟨fun hw => ?_, fun hw => hJ.pure (gb_refl _ _) rfl rfl⟩
        unfold wantL at hw
        simp only [eg] at hw
        exact absurd hw (by decide)
      · intro l t w7 hJ hl hd
        have eg := hJ.val 27 _ rfl (hd 27 (by kernel_rfl))
        refine ⟨fun hw => ?_, fun hw => hJ.pure (gb_refl _ _) rfl rfl⟩
        unfold wantL at hw
        simp only [eg] at hw
        exact absurd hw (by decide)
      · intro l t w7 hJ hl hd
        have eg := hJ.val 27 _ rfl (hd 27 (by kernel_rfl))
        refine ⟨fun hw => ?_, fun hw => hJ.pure (gb_refl _ _) rfl rfl⟩
        unfold wantL at hw
        simp only [eg] at hw
        exact absurd hw (by decide)
      · intro l t w7 hJ hl hd
        have eg := hJ.val 27 _ rfl (hd 27 (by kernel_rfl))
        refine ⟨fun hw => ?_, fun hw => hJ.pure (gb_refl _ _) rfl rfl⟩
        unfold wantL at hw
        simp only [eg] at hw
        exact absurd hw (by decide)
      · intro l t w7 hJ hl hd
        have eg := hJ.val 27 _ rfl (hd 27 (by kernel_rfl))
        refine ⟨fun hw => ?_, fun hw => hJ.pure (gb_refl _ _) rfl rfl⟩
        unfold wantL at hw
        simp only [eg] at hw
        exact absurd hw (by decide)
      · intro l t w7 hJ hl hd
        have eg := hJ.val 20 _ rfl (hd 20 (by kernel_rfl))
        refine ⟨fun hw => ?_, fun hw => hJ.pure (gb_refl _ _) rfl rfl⟩
        unfold wantL at hw
        simp only [eg] at hw
        exact absurd hw (by decide)
      · intro l t w7 hJ hl hd
        have eg := hJ.val 13 _ rfl (hd 13 (by kernel_rfl))
        refine ⟨fun hw => ?_, fun hw => hJ.pure (gb_refl _ _) rfl rfl⟩
        unfold wantL at hw
        simp only [eg] at hw
        exact absurd hw (by decide)
      · intro l t w7 hJ hl hd
        refine ⟨fun hw bb hbb K hK => ?_, fun hw => ?_⟩
        · clear hw
          have e13 := hJ.val 13 _ rfl (hd 13 (by kernel_rfl))
          have e35 := hJ.val 35 _ rfl (hd 35 (by kernel_rfl))
          simp only [puts, Act.put, List.setIfInBounds_toArray, List.set_cons_zero, List.set_cons_succ] at hbb
          rw [e13] at hbb
          rw [e35] at hbb
          subst hbb
          go_simp
          exact hK.out _ _ (hJ.pure (gb_refl _ _) rfl rfl)
        · exact Bool.noConfusion (show true = false from hw)
      · intro l t w7 hJ hl hd
        refine ⟨fun hw bb hbb K hK => ?_, fun hw => ?_⟩
        · clear hw
          have e36 := hJ.val 36 _ rfl (hd 36 (by kernel_rfl))
          simp only [puts, Act.put, List.setIfInBounds_toArray, List.set_cons_zero, List.set_cons_succ] at hbb
          rw [e36] at hbb
          subst hbb
          go_simp
          exact hK.out _ _ (hJ.pure (gb_refl _ _) rfl rfl)
        · exact Bool.noConfusion (show true = false from hw)
    intro l t w7 hJ hl
    have e37 := hJ.val 37 _ rfl (hl 37 (by decide))
    have HB7 := hid hJ.gb
    clear hJ hl
    simp only [puts, Act.put, List.setIfInBounds_toArray, List.set_cons_zero, List.set_cons_succ]
    rw [e37]
    clear e37
    go_wp2_with fail
    go_ret
    exact ⟨congrArg (fun b => Ending.returned (.bool b)) (show gback _ _ _ _ _ = false from (by unfold gback; rw [HO.out]; rfl)).symm, gb_trans HG.out HB7.out⟩
  · by_cases hlt : p1 < b1
    · have Hc := hid (And.intro hlt True.intro)
      refine wp_region_invg (JV w1 [some (.iface td (.pointer (some ⟨bd, 0, none⟩))), some (.iface td (.pointer (some ⟨bd, 0, none⟩))), some (.bool true), some (.bool true), some (vR b0 b1 b2 b3), some (vR b0 b1 b2 b3), some (vP p0 p1), some (.pointer (some ⟨w.heap.size, 0, none⟩)), some (vP b0 b1), some (vP (p0 - b0) (p1 - b1)), some (vR (b0 + (p0 - b0)) (b1 + (p1 - b1)) (b2 + (p0 - b0)) (b3 + (p1 - b1))), some (.bool true), some (.bool true), some (.bool true), some (.pointer (some ⟨w.heap.size + 1, 1, none⟩)), some (.int .i64 p1), some (.pointer (some ⟨w.heap.size, 0, none⟩)), some (.pointer (some ⟨w.heap.size, 1, none⟩)), some (.int .i64 b1), some (.bool true), some (.bool true), some (undef), some (undef), some (undef), some (undef), some (undef), some (undef), some (undef), some (undef), some (undef), some (undef), some (undef), some (undef), some (undef), some (undef), some (.bool true), some (.bool true), some (.bool true)] []) (fun _ => undef) (by kernel_rfl) (by kernel_rfl) (by kernel_rfl) [(0, 9), (1, 10), (2, 11), (3, 12), (4, 13), (5, 14), (6, 15), (7, 16), (8, 17), (9, 18), (10, 19), (11, 20), (12, 21), (13, 22), (14, 23), (15, 24), (16, 25), (17, 26), (18, 27), (19, 28), (20, 29), (21, 30), (22, 31), (23, 32), (24, 33), (25, 34), (26, 35), (27, 36), (28, 37), (29, 38), (30, 39), (31, 40), (32, 41), (33, 42), (34, 43), (35, 44), (36, 45), (37, 8)] (by kernel_rfl) (JV.start (by (repeat (first | exact gb_refl _ _ | refine gb_drew ?_)))) ?_ ?_
      · refine StepsG.cons [] (by kernel_rfl) ?_ (StepsG.cons [] (by kernel_rfl) ?_ (StepsG.cons [(0, 9), (1, 10)] (by kernel_rfl) ?_ (StepsG.cons [(2, 11)] (by kernel_rfl) ?_ (StepsG.cons [] (by kernel_rfl) ?_ (StepsG.cons [] (by kernel_rfl) ?_ (StepsG.cons [] (by kernel_rfl) ?_ (StepsG.cons [] (by kernel_rfl) ?_ (StepsG.cons [(7, 16)] (by kernel_rfl) ?_ (StepsG.cons [(6, 15), (8, 17)] (by kernel_rfl) ?_ (StepsG.cons [(5, 14), (9, 18)] (by kernel_rfl) ?_ (StepsG.cons [(4, 13), (10, 19)] (by kernel_rfl) ?_ (StepsG.cons [(3, 12), (11, 20)] (by kernel_rfl) ?_ (StepsG.cons [(12, 21)] (by kernel_rfl) ?_ (StepsG.cons [] (by kernel_rfl) ?_ (StepsG.cons [(14, 23)] (by kernel_rfl) ?_ (StepsG.cons [] (by kernel_rfl) ?_ (StepsG.cons [(16, 25)] (by kernel_rfl) ?_ (StepsG.cons [(17, 26)] (by kernel_rfl) ?_ (StepsG.cons [(15, 24), (18, 27)] (by kernel_rfl) ?_ (StepsG.cons [(19, 28)] (by kernel_rfl) ?_ (StepsG.cons [] (by kernel_rfl) ?_ (StepsG.cons [(21, 30)] (by kernel_rfl) ?_ (StepsG.cons [] (by kernel_rfl) ?_ (StepsG.cons [(23, 32)] (by kernel_rfl) ?_ (StepsG.cons [(24, 33)] (by kernel_rfl) ?_ (StepsG.cons [(22, 31), (25, 34)] (by kernel_rfl) ?_ (StepsG.cons [(26, 35)] (by kernel_rfl) ?_ (StepsG.cons [] (by kernel_rfl) ?_ (StepsG.cons [(28, 37)] (by kernel_rfl) ?_ (StepsG.cons [] (by kernel_rfl) ?_ (StepsG.cons [(30, 39)] (by kernel_rfl) ?_ (StepsG.cons [(31, 40)] (by kernel_rfl) ?_ (StepsG.cons [(29, 38), (32, 41)] (by kernel_rfl) ?_ (StepsG.cons [(27, 36), (33, 42)] (by kernel_rfl) ?_ (StepsG.cons [(20, 29), (34, 43)] (by kernel_rfl) ?_ (StepsG.cons [(13, 22), (35, 44)] (by kernel_rfl) ?_ (StepsG.cons [(36, 45)] (by kernel_rfl) ?_ (StepsG.nil))))))))))))))))))))))))))))))))))))))
        · intro l t w7 hJ hl hd
          refine ⟨fun hw bb hbb K hK => ?_, fun hw => ?_⟩
          · clear hw
            simp only [puts, Act.put, List.setIfInBounds_toArray, List.set_cons_zero, List.set_cons_succ] at hbb
            subst hbb
            go_simp
            exact hK.out _ _ (hJ.pure (gb_refl _ _) rfl rfl)
          · exact Bool.noConfusion (show true = false from hw)
        · intro l t w7 hJ hl hd
          refine ⟨fun hw bb hbb K hK => ?_, fun hw => ?_⟩
          · clear hw
            simp only [puts, Act.put, List.setIfInBounds_toArray, List.set_cons_zero, List.set_cons_succ] at hbb
            subst hbb
            go_simp
            exact hK.out _ _ (hJ.pure (gb_refl _ _) rfl rfl)
          · exact Bool.noConfusion (show true = false from hw)
        · intro l t w7 hJ hl hd
          refine ⟨fun hw bb hbb K hK => ?_, fun hw => ?_⟩
          · clear hw
            have e0 := hJ.val 0 _ rfl (hd 0 (by kernel_rfl))
            have e1 := hJ.val 1 _ rfl (hd 1 (by kernel_rfl))
            have hEw := HE.out w7
            simp only [puts, Act.put, List.setIfInBounds_toArray, List.set_cons_zero, List.set_cons_succ] at hbb
            rw [e0] at hbb
            rw [e1] at hbb
            subst hbb
            go_simp
            exact hK.out _ _ (hJ.pure (gb_refl _ _) rfl rfl)
          · exact Bool.noConfusion (show true = false from hw)
        · intro l t w7 hJ hl hd
          refine ⟨fun hw bb hbb K hK => ?_, fun hw => ?_⟩
          · clear hw
            have e2 := hJ.val 2 _ rfl (hd 2 (by kernel_rfl))
            simp only [puts, Act.put, List.setIfInBounds_toArray, List.set_cons_zero, List.set_cons_succ] at hbb
            rw [e2] at hbb
            subst hbb
            go_simp
            exact hK.out _ _ (hJ.pure (gb_refl _ _) rfl rfl)
          · exact Bool.noConfusion (show true = false from hw)
        · intro l t w7 hJ hl hd
          have eg := hJ.val 3 _ rfl (hd 3 (by kernel_rfl))
          refine ⟨fun hw bb hbb K hK => ?_, fun hw => ?_⟩
          · clear hw
            have x0 := (HR.out.kept0 hJ.gb) 0 _ rfl
            have x1 := (HR.out.kept0 hJ.gb) 1 _ rfl
            have x2 := (HR.out.kept0 hJ.gb) 2 _ rfl
            have x3 := (HR.out.kept0 hJ.gb) 3 _ rfl
            simp only [puts, Act.put, List.setIfInBounds_toArray, List.set_cons_zero, List.set_cons_succ] at hbb
            subst hbb
            go_simp
            exact hK.out _ _ (hJ.pure (gb_refl _ _) rfl rfl)
          · unfold wantL at hw
            simp only [eg] at hw
            exact absurd hw (by decide)
        · intro l t w7 hJ hl hd
          have eg := hJ.val 3 _ rfl (hd 3 (by kernel_rfl))
          refine ⟨fun hw bb hbb K hK => ?_, fun hw => ?_⟩
          · clear hw
            have x0 := (HR.out.kept0 hJ.gb) 0 _ rfl
            have x1 := (HR.out.kept0 hJ.gb) 1 _ rfl
            have x2 := (HR.out.kept0 hJ.gb) 2 _ rfl
            have x3 := (HR.out.kept0 hJ.gb) 3 _ rfl
            simp only [puts, Act.put, List.setIfInBounds_toArray, List.set_cons_zero, List.set_cons_succ] at hbb
            subst hbb
            go_simp
            exact hK.out _ _ (hJ.pure (gb_refl _ _) rfl rfl)
          · unfold wantL at hw
            simp only [eg] at hw
            exact absurd hw (by decide)
        · intro l t w7 hJ hl hd
          have eg := hJ.val 3 _ rfl (hd 3 (by kernel_rfl))
          refine ⟨fun hw bb hbb K hK => ?_, fun hw => ?_⟩
          · clear hw
            have x0 := (HP.out.kept0 hJ.gb) 0 _ rfl
            have x1 := (HP.out.kept0 hJ.gb) 1 _ rfl
            simp only [puts, Act.put, List.setIfInBounds_toArray, List.set_cons_zero, List.set_cons_succ] at hbb
            subst hbb
            go_simp
            exact hK.out _ _ (hJ.pure (gb_refl _ _) rfl rfl)
          · unfold wantL at hw
            simp only [eg] at hw
            exact absurd hw (by decide)
        · intro l t w7 hJ hl hd
          have eg := hJ.val 3 _ rfl (hd 3 (by kernel_rfl))
          refine ⟨fun hw bb hbb K hK => ?_, fun hw => ?_⟩
          · clear hw
            simp only [puts, Act.put, List.setIfInBounds_toArray, List.set_cons_zero, List.set_cons_succ] at hbb
            subst hbb
            go_simp
            exact hK.out _ _ (hJ.pure (gb_refl _ _) rfl rfl)
          · unfold wantL at hw
            simp only [eg] at hw
            exact absurd hw (by decide)
        · intro l t w7 hJ hl hd
          have eg := hJ.val 3 _ rfl (hd 3 (by kernel_rfl))
          refine ⟨fun hw bb hbb K hK => ?_, fun hw => ?_⟩
          · clear hw
            have e7 := hJ.val 7 _ rfl (hd 7 (by kernel_rfl))
            have x0 := (HR.out.kept0 hJ.gb) 0 _ rfl
            have x1 := (HR.out.kept0 hJ.gb) 1 _ rfl
            have x2 := (HR.out.kept0 hJ.gb) 2 _ rfl
            have x3 := (HR.out.kept0 hJ.gb) 3 _ rfl
            simp only [puts, Act.put, List.setIfInBounds_toArray, List.set_cons_zero, List.set_cons_succ] at hbb
            rw [e7] at hbb
            subst hbb
            go_simp
            exact hK.out _ _ (hJ.pure (gb_refl _ _) rfl rfl)
          · unfold wantL at hw
            simp only [eg] at hw
            exact absurd hw (by decide)
        · intro l t w7 hJ hl hd
          have eg := hJ.val 3 _ rfl (hd 3 (by kernel_rfl))
          refine ⟨fun hw bb hbb K hK => ?_, fun hw => ?_⟩
          · clear hw
            have e6 := hJ.val 6 _ rfl (hd 6 (by kernel_rfl))
            have e8 := hJ.val 8 _ rfl (hd 8 (by kernel_rfl))
            simp only [puts, Act.put, List.setIfInBounds_toArray, List.set_cons_zero, List.set_cons_succ] at hbb
            rw [e6] at hbb
            rw [e8] at hbb
            subst hbb
            go_simp
            refine (sub_c p0 p1 b0 b1 _ (by unfold sm; omega) (by unfold sm; omega) (by unfold sm; omega) (by unfold sm; omega)).mono ?_
            rintro e w8 ⟨rfl, hg⟩
            exact hK.out _ _ (hJ.pure hg rfl rfl)
          · unfold wantL at hw
            simp only [eg] at hw
            exact absurd hw (by decide)
        · intro l t w7 hJ hl hd
          have eg := hJ.val 3 _ rfl (hd 3 (by kernel_rfl))
          refine ⟨fun hw bb hbb K hK => ?_, fun hw => ?_⟩
          · clear hw
            have e5 := hJ.val 5 _ rfl (hd 5 (by kernel_rfl))
            have e9 := hJ.val 9 _ rfl (hd 9 (by kernel_rfl))
            simp only [puts, Act.put, List.setIfInBounds_toArray, List.set_cons_zero, List.set_cons_succ] at hbb
            rw [e5] at hbb
            rw [e9] at hbb
            subst hbb
            go_simp
            refine (add_c b0 b1 b2 b3 (p0 - b0) (p1 - b1) _ (by unfold sm; omega) (by unfold sm; omega) (by unfold sm; omega) (by unfold sm; omega) (by unfold sm; omega) (by unfold sm; omega)).mono ?_
            rintro e w8 ⟨rfl, hg⟩
            exact hK.out _ _ (hJ.pure hg rfl rfl)
          · unfold wantL at hw
            simp only [eg] at hw
            exact absurd hw (by decide)
        · intro l t w7 hJ hl hd
          have eg := hJ.val 3 _ rfl (hd 3 (by kernel_rfl))
          refine ⟨fun hw bb hbb K hK => ?_, fun hw => ?_⟩
          · clear hw
            have e4 := hJ.val 4 _ rfl (hd 4 (by kernel_rfl))
            have e10 := hJ.val 10 _ rfl (hd 10 (by kernel_rfl))
            simp only [puts, Act.put, List.setIfInBounds_toArray, List.set_cons_zero, List.set_cons_succ] at hbb
            rw [e4] at hbb
            rw [e10] at hbb
            subst hbb
            go_simp
            refine (overlaps_c b0 b1 b2 b3 (b0 + (p0 - b0)) (b1 + (p1 - b1)) (b2 + (p0 - b0)) (b3 + (p1 - b1)) _).mono ?_
            rintro e w8 ⟨rfl, hg⟩
            rw [HO.out]
            exact hK.out _ _ (hJ.pure hg rfl rfl)
          · unfold wantL at hw
            simp only [eg] at hw
            exact absurd hw (by decide)
        · intro l t w7 hJ hl hd
          refine ⟨fun hw bb hbb K hK => ?_, fun hw => ?_⟩
          · clear hw
            have e3 := hJ.val 3 _ rfl (hd 3 (by kernel_rfl))
            have e11 := hJ.val 11 _ rfl (hd 11 (by kernel_rfl))
            simp only [puts, Act.put, List.setIfInBounds_toArray, List.set_cons_zero, List.set_cons_succ] at hbb
            rw [e3] at hbb
            rw [e11] at hbb
            subst hbb
            go_simp
            exact hK.out _ _ (hJ.pure (gb_refl _ _) rfl rfl)
          · exact Bool.noConfusion (show true = false from hw)
        · intro l t w7 hJ hl hd
          refine ⟨fun hw bb hbb K hK => ?_, fun hw => ?_⟩
          · clear hw
            have e12 := hJ.val 12 _ rfl (hd 12 (by kernel_rfl))
            simp only [puts, Act.put, List.setIfInBounds_toArray, List.set_cons_zero, List.set_cons_succ] at hbb
            rw [e12] at hbb
            subst hbb
            go_simp
            exact hK.out _ _ (hJ.pure (gb_refl _ _) rfl rfl)
          · exact Bool.noConfusion (show true = false from hw)
        · intro l t w7 hJ hl hd
          have eg := hJ.val 13 _ rfl (hd 13 (by kernel_rfl))
          refine ⟨fun hw bb hbb K hK => ?_, fun hw => ?_⟩
          · clear hw
            simp only [puts, Act.put, List.setIfInBounds_toArray, List.set_cons_zero, List.set_cons_succ] at hbb
            subst hbb
            go_simp
            exact hK.out _ _ (hJ.pure (gb_refl _ _) rfl rfl)
          · unfold wantL at hw
            simp only [eg] at hw
            exact absurd hw (by decide)
        · intro l t w7 hJ hl hd
          have eg := hJ.val 13 _ rfl (hd 13 (by kernel_rfl))
          refine ⟨fun hw bb hbb K hK => ?_, fun hw => ?_⟩
          · clear hw
            have e14 := hJ.val 14 _ rfl (hd 14 (by kernel_rfl))
            have x0 := (HP.out.kept0 hJ.gb) 0 _ rfl
            have x1 := (HP.out.kept0 hJ.gb) 1 _ rfl
            simp only [puts, Act.put, List.setIfInBounds_toArray, List.set_cons_zero, List.set_cons_succ] at hbb
            rw [e14] at hbb
            subst hbb
            go_simp
            exact hK.out _ _ (hJ.pure (gb_refl _ _) rfl rfl)
          · unfold wantL at hw
            simp only [eg] at hw
            exact absurd hw (by decide)
        · intro l t w7 hJ hl hd
          have eg := hJ.val 13 _ rfl (hd 13 (by kernel_rfl))
          refine ⟨fun hw bb hbb K hK => ?_, fun hw => ?_⟩
          · clear hw
            simp only [puts, Act.put, List.setIfInBounds_toArray, List.set_cons_zero, List.set_cons_succ] at hbb
            subst hbb
            go_simp
            exact hK.out _ _ (hJ.pure (gb_refl _ _) rfl rfl)
          · unfold wantL at hw
            simp only [eg] at hw
            exact absurd hw (by decide)
        · intro l t w7 hJ hl hd
          have eg := hJ.val 13 _ rfl (hd 13 (by kernel_rfl))
          refine ⟨fun hw bb hbb K hK => ?_, fun hw => ?_⟩
          · clear hw
            have e16 := hJ.val 16 _ rfl (hd 16 (by kernel_rfl))
            simp only [puts, Act.put, List.setIfInBounds_toArray, List.set_cons_zero, List.set_cons_succ] at hbb
            rw [e16] at hbb
            subst hbb
            go_simp
            exact hK.out _ _ (hJ.pure (gb_refl _ _) rfl rfl)
          · unfold wantL at hw
            simp only [eg] at hw
            exact absurd hw (by decide)
        · intro l t w7 hJ hl hd
          have eg := hJ.val 13 _ rfl (hd 13 (by kernel_rfl))
          refine ⟨fun hw bb hbb K hK => ?_, fun hw => ?_⟩
          · clear hw
            have e17 := hJ.val 17 _ rfl (hd 17 (by kernel_rfl))
            have x0 := (HR.out.kept0 hJ.gb) 0 _ rfl
            have x1 := (HR.out.kept0 hJ.gb) 1 _ rfl
            have x2 := (HR.out.kept0 hJ.gb) 2 _ rfl
            have x3 := (HR.out.kept0 hJ.gb) 3 _ rfl
            simp only [puts, Act.put, List.setIfInBounds_toArray, List.set_cons_zero, List.set_cons_succ] at hbb
            rw [e17] at hbb
            subst hbb
            go_simp
            exact hK.out _ _ (hJ.pure (gb_refl _ _) rfl rfl)
          · unfold wantL at hw
            simp only [eg] at hw
            exact absurd hw (by decide)
        · intro l t w7 hJ hl hd
          have eg := hJ.val 13 _ rfl (hd 13 (by kernel_rfl))
          refine ⟨fun hw bb hbb K hK => ?_, fun hw => ?_⟩
          · clear hw
            have e15 := hJ.val 15 _ rfl (hd 15 (by kernel_rfl))
            have e18 := hJ.val 18 _ rfl (hd 18 (by kernel_rfl))
            simp only [puts, Act.put, List.setIfInBounds_toArray, List.set_cons_zero, List.set_cons_succ] at hbb
            rw [e15] at hbb
            rw [e18] at hbb
            subst hbb
            go_simp
            exact hK.out _ _ (hJ.pure (gb_refl _ _) rfl rfl)
          · unfold wantL at hw
            simp only [eg] at hw
            exact absurd hw (by decide)
        · intro l t w7 hJ hl hd
          have eg := hJ.val 13 _ rfl (hd 13 (by kernel_rfl))
          refine ⟨fun hw bb hbb K hK => ?_, fun hw => ?_⟩
          · clear hw
            have e19 := hJ.val 19 _ rfl (hd 19 (by kernel_rfl))
            simp only [puts, Act.put, List.setIfInBounds_toArray, List.set_cons_zero, List.set_cons_succ] at hbb
            rw [e19] at hbb
            subst hbb
            go_simp
            exact hK.out _ _ (hJ.pure (gb_refl _ _) rfl rfl)
          · unfold wantL at hw
            simp only [eg] at hw
            exact absurd hw (by decide)
        · intro l t w7 hJ hl hd
          have eg := hJ.val 20 _ rfl (hd 20 (by kernel_rfl))
          refine ⟨fun hw => ?_, fun hw => hJ.pure (gb_refl _ _) rfl rfl⟩
          unfold wantL at hw
          simp only [eg] at hw
          exact absurd hw (by decide)
        · intro l t w7 hJ hl hd
          have eg := hJ.val 20 _ rfl (hd 20 (by kernel_rfl))
          refine ⟨fun hw => ?_, fun hw => hJ.pure (gb_refl _ _) rfl rfl⟩
          unfold wantL at hw
          simp only [eg] at hw
          exact absurd hw (by decide)
        · intro l t w7 hJ hl hd
          have eg := hJ.val 20 _ rfl (hd 20 (by kernel_rfl))
          refine ⟨fun hw => ?_, fun hw => hJ.pure (gb_refl _ _) rfl rfl⟩
          unfold wantL at hw
          simp only [eg] at hw
          exact absurd hw (by decide)
        · intro l t w7 hJ hl hd
          have eg := hJ.val 20 _ rfl (hd 20 (by kernel_rfl))
          refine ⟨fun hw => ?_, fun hw => hJ.pure (gb_refl _ _) rfl rfl⟩
          unfold wantL at hw
          simp only [eg] at hw
          exact absurd hw (by decide)
        · intro l t w7 hJ hl hd
          have eg := hJ.val 20 _ rfl (hd 20 (by kernel_rfl))
          refine ⟨fun hw => ?_, fun hw => hJ.pure (gb_refl _ _) rfl rfl⟩
          unfold wantL at hw
          simp only [eg] at hw
          exact absurd hw (by decide)
        · intro l t w7 hJ hl hd
          have eg := hJ.val 20 _ rfl (hd 20 (by kernel_rfl))
          refine ⟨fun hw => ?_, fun hw => hJ.pure (gb_refl _ _) rfl rfl⟩
          unfold wantL at hw
          simp only [eg] at hw
          exact absurd hw (by decide)
        · intro l t w7 hJ hl hd
          have eg := hJ.val 20 _ rfl (hd 20 (by kernel_rfl))
          refine ⟨fun hw => ?_, fun hw => hJ.pure (gb_refl _ _) rfl rfl⟩
          unfold wantL at hw
          simp only [eg] at hw
          exact absurd hw (by decide)
        · intro l t w7 hJ hl hd
          have eg := hJ.val 27 _ rfl (hd 27 (by kernel_rfl))
          refine ⟨fun hw => ?_, fun hw => hJ.pure (gb_refl _ _) rfl rfl⟩
          unfold wantL at hw
          simp only [eg] at hw
          exact absurd hw (by decide)
        · intro l t w7 hJ hl hd
          have eg := hJ.val 27 _ rfl (hd 27 (by kernel_rfl))
          refine ⟨fun hw => ?_, fun hw => hJ.pure (gb_refl _ _) rfl rfl⟩
          unfold wantL at hw
          simp only [eg] at hw
          exact absurd hw (by decide)
        · intro l t w7 hJ hl hd
          have eg := hJ.val 27 _ rfl (hd 27 (by kernel_rfl))
          refine ⟨fun hw => ?_, fun hw => hJ.pure (gb_refl _ _) rfl rfl⟩
          unfold wantL at hw
          simp only [eg] at hw
          exact absurd hw (by decide)
        · intro l t w7 hJ hl hd
          have eg := hJ.val 27 _ rfl (hd 27 (by kernel_rfl))
          refine ⟨fun hw => ?_, fun hw => hJ.pure (gb_refl _ _) rfl rfl⟩
          unfold wantL at hw
          simp only [eg] at hw
          exact absurd hw (by decide)
        · intro l t w7 hJ hl hd
          have eg := hJ.val 27 _ rfl (hd 27 (by kernel_rfl))
          refine ⟨fun hw => ?_, fun hw => hJ.pure (gb_refl _ _) rfl rfl⟩
          unfold wantL at hw
          simp only [eg] at hw
          exact absurd hw (by decide)
        · intro l t w7 hJ hl hd
          have eg := hJ.val 27 _ rfl (hd 27 (by kernel_rfl))
          refine ⟨fun hw => ?_, fun hw => hJ.pure (gb_refl _ _) rfl rfl⟩
          unfold wantL at hw
          simp only [eg] at hw
          exact absurd hw (by decide)
        · intro l t w7 hJ hl hd
          have eg := hJ.val 20 _ rfl (hd 20 (by kernel_rfl))
          refine ⟨fun hw => ?_, fun hw => hJ.pure (gb_refl _ _) rfl rfl⟩
          unfold wantL at hw
          simp only [eg] at hw
          exact absurd hw (by decide)
        · intro l t w7 hJ hl hd
          have eg := hJ.val 13 _ rfl (hd 13 (by kernel_rfl))
          refine ⟨fun hw bb hbb K hK => ?_, fun hw => ?_⟩
          · clear hw
            have e20 := hJ.val 20 _ rfl (hd 20 (by kernel_rfl))
            have e34 := hJ.val 34 _ rfl (hd 34 (by kernel_rfl))
            simp only [puts, Act.put, List.setIfInBounds_toArray, List.set_cons_zero, List.set_cons_succ] at hbb
            rw [e20] at hbb
            rw [e34] at hbb
            subst hbb
            go_simp
            exact hK.out _ _ (hJ.pure (gb_refl _ _) rfl rfl)
          · unfold wantL at hw
            simp only [eg] at hw
            exact absurd hw (by decide)
        · intro l t w7 hJ hl hd
          refine ⟨fun hw bb hbb K hK => ?_, fun hw => ?_⟩
          · clear hw
            have e13 := hJ.val 13 _ rfl (hd 13 (by kernel_rfl))
            have e35 := hJ.val 35 _ rfl (hd 35 (by kernel_rfl))
            simp only [puts, Act.put, List.setIfInBounds_toArray, List.set_cons_zero, List.set_cons_succ] at hbb
            rw [e13] at hbb
            rw [e35] at hbb
            subst hbb
            go_simp
            exact hK.out _ _ (hJ.pure (gb_refl _ _) rfl rfl)
          · exact Bool.noConfusion (show true = false from hw)
        · intro l t w7 hJ hl hd
          refine ⟨fun hw bb hbb K hK => ?_, fun hw => ?_⟩
          · clear hw
            have e36 := hJ.val 36 _ rfl (hd 36 (by kernel_rfl))
            simp only [puts, Act.put, List.setIfInBounds_toArray, List.set_cons_zero, List.set_cons_succ] at hbb
            rw [e36] at hbb
            subst hbb
            go_simp
            exact hK.out _ _ (hJ.pure (gb_refl _ _) rfl rfl)
          · exact Bool.noConfusion (show true = false from hw)
      intro l t w7 hJ hl
      have e37 := hJ.val 37 _ rfl (hl 37 (by decide))
      have HB7 := hid hJ.gb
      clear hJ hl
      simp only [puts, Act.put, List.setIfInBounds_toArray, List.set_cons_zero, List.set_cons_succ]
      rw [e37]
      clear e37
      go_wp2_with fail
      go_ret
      exact ⟨congrArg (fun b => Ending.returned (.bool b)) (show gback _ _ _ _ _ = true from (by unfold gback; rw [HO.out]; simp [Hc.out.1])).symm, gb_trans HG.out HB7.out⟩
    · obtain ⟨bq, hq⟩ : ∃ b : Bool, (p1 == b1) = b := ⟨_, rfl⟩
      cases bq
      · have Hc := hid (And.intro hlt hq)
        refine wp_region_invg (JV w1 [some (.iface td (.pointer (some ⟨bd, 0, none⟩))), some (.iface td (.pointer (some ⟨bd, 0, none⟩))), some (.bool true), some (.bool true), some (vR b0 b1 b2 b3), some (vR b0 b1 b2 b3), some (vP p0 p1), some (.pointer (some ⟨w.heap.size, 0, none⟩)), some (vP b0 b1), some (vP (p0 - b0) (p1 - b1)), some (vR (b0 + (p0 - b0)) (b1 + (p1 - b1)) (b2 + (p0 - b0)) (b3 + (p1 - b1))), some (.bool true), some (.bool true), some (.bool true), some (.pointer (some ⟨w.heap.size + 1, 1, none⟩)), some (.int .i64 p1), some (.pointer (some ⟨w.heap.size, 0, none⟩)), some (.pointer (some ⟨w.heap.size, 1, none⟩)), some (.int .i64 b1), some (.bool false), some (.bool false), some (.pointer (some ⟨w.heap.size + 1, 1, none⟩)), some (.int .i64 p1), some (.pointer (some ⟨w.heap.size, 0, none⟩)), some (.pointer (some ⟨w.heap.size, 1, none⟩)), some (.int .i64 b1), some (.bool false), some (.bool false), some (undef), some (undef), some (undef), some (undef), some (undef), some (undef), some (.bool false), some (.bool false), some (.bool false), some (.bool false)] []) (fun _ => undef) (by kernel_rfl) (by kernel_rfl) (by kernel_rfl) [(0, 9), (1, 10), (2, 11), (3, 12), (4, 13), (5, 14), (6, 15), (7, 16), (8, 17), (9, 18), (10, 19), (11, 20), (12, 21), (13, 22), (14, 23), (15, 24), (16, 25), (17, 26), (18, 27), (19, 28), (20, 29), (21, 30), (22, 31), (23, 32), (24, 33), (25, 34), (26, 35), (27, 36), (28, 37), (29, 38), (30, 39), (31, 40), (32, 41), (33, 42), (34, 43), (35, 44), (36, 45), (37, 8)] (by kernel_rfl) (JV.start (by (repeat (first | exact gb_refl _ _ | refine gb_drew ?_)))) ?_ ?_
        · refine StepsG.cons [] (by kernel_rfl) ?_ (StepsG.cons [] (by kernel_rfl) ?_ (StepsG.cons [(0, 9), (1, 10)] (by kernel_rfl) ?_ (StepsG.cons [(2, 11)] (by kernel_rfl) ?_ (StepsG.cons [] (by kernel_rfl) ?_ (StepsG.cons [] (by kernel_rfl) ?_ (StepsG.cons [] (by kernel_rfl) ?_ (StepsG.cons [] (by kernel_rfl) ?_ (StepsG.cons [(7, 16)] (by kernel_rfl) ?_ (StepsG.cons [(6, 15), (8, 17)] (by kernel_rfl) ?_ (StepsG.cons [(5, 14), (9, 18)] (by kernel_rfl) ?_ (StepsG.cons [(4, 13), (10, 19)] (by kernel_rfl) ?_ (StepsG.cons [(3, 12), (11, 20)] (by kernel_rfl) ?_ (StepsG.cons [(12, 21)] (by kernel_rfl) ?_ (StepsG.cons [] (by kernel_rfl) ?_ (StepsG.cons [(14, 23)] (by kernel_rfl) ?_ (StepsG.cons [] (by kernel_rfl) ?_ (StepsG.cons [(16, 25)] (by kernel_rfl) ?_ (StepsG.cons [(17, 26)] (by kernel_rfl) ?_ (StepsG.cons [(15, 24), (18, 27)] (by kernel_rfl) ?_ (StepsG.cons [(19, 28)] (by kernel_rfl) ?_ (StepsG.cons [] (by kernel_rfl) ?_ (StepsG.cons [(21, 30)] (by kernel_rfl) ?_ (StepsG.cons [] (by kernel_rfl) ?_ (StepsG.cons [(23, 32)] (by kernel_rfl) ?_ (StepsG.cons [(24, 33)] (by kernel_rfl) ?_ (StepsG.cons [(22, 31), (25, 34)] (by kernel_rfl) ?_ (StepsG.cons [(26, 35)] (by kernel_rfl) ?_ (StepsG.cons [] (by kernel_rfl) ?_ (StepsG.cons [(28, 37)] (by kernel_rfl) ?_ (StepsG.cons [] (by kernel_rfl) ?_ (StepsG.cons [(30, 39)] (by kernel_rfl) ?_ (StepsG.cons [(31, 40)] (by kernel_rfl) ?_ (StepsG.cons [(29, 38), (32, 41)] (by kernel_rfl) ?_ (StepsG.cons [(27, 36), (33, 42)] (by kernel_rfl) ?_ (StepsG.cons [(20, 29), (34, 43)] (by kernel_rfl) ?_ (StepsG.cons [(13, 22), (35, 44)] (by kernel_rfl) ?_ (StepsG.cons [(36, 45)] (by kernel_rfl) ?_ (StepsG.nil))))))))))))))))))))))))))))))))))))))
          · intro l t w7 hJ hl hd
            refine ⟨fun hw bb hbb K hK => ?_, fun hw => ?_⟩
            · clear hw
              simp only [puts, Act.put, List.setIfInBounds_toArray, List.set_cons_zero, List.set_cons_succ] at hbb
              subst hbb
              go_simp
              exact hK.out _ _ (hJ.pure (gb_refl _ _) rfl rfl)
            · exact Bool.noConfusion (show true = false from hw)
          · intro l t w7 hJ hl hd
            refine ⟨fun hw bb hbb K hK => ?_, fun hw => ?_⟩
            · clear hw
              simp only [puts, Act.put, List.setIfInBounds_toArray, List.set_cons_zero, List.set_cons_succ] at hbb
              subst hbb
              go_simp
              exact hK.out _ _ (hJ.pure (gb_refl _ _) rfl rfl)
            · exact Bool.noConfusion (show true = false from hw)
          · intro l t w7 hJ hl hd
            refine ⟨fun hw bb hbb K hK => ?_, fun hw => ?_⟩
            · clear hw
              have e0 := hJ.val 0 _ rfl (hd 0 (by kernel_rfl))
              have e1 := hJ.val 1 _ rfl (hd 1 (by kernel_rfl))
              have hEw := HE.out w7
              simp only [puts, Act.put, List.setIfInBounds_toArray, List.set_cons_zero, List.set_cons_succ] at hbb
              rw [e0] at hbb
              rw [e1] at hbb
              subst hbb
              go_simp
              exact hK.out _ _ (hJ.pure (gb_refl _ _) rfl rfl)
            · exact Bool.noConfusion (show true = false from hw)
          · intro l t w7 hJ hl hd
            refine ⟨fun hw bb hbb K hK => ?_, fun hw => ?_⟩
            · clear hw
              have e2 := hJ.val 2 _ rfl (hd 2 (by kernel_rfl))
              simp only [puts, Act.put, List.setIfInBounds_toArray, List.set_cons_zero, List.set_cons_succ] at hbb
              rw [e2] at hbb
              subst hbb
              go_simp
              exact hK.out _ _ (hJ.pure (gb_refl _ _) rfl rfl)
            · exact Bool.noConfusion (show true = false from hw)
          · intro l t w7 hJ hl hd
            have eg := hJ.val 3 _ rfl (hd 3 (by kernel_rfl))
            refine ⟨fun hw bb hbb K hK => ?_, fun hw => ?_⟩
            · clear hw
              have x0 := (HR.out.kept0 hJ.gb) 0 _ rfl
              have x1 := (HR.out.kept0 hJ.gb) 1 _ rfl
              have x2 := (HR.out.kept0 hJ.gb) 2 _ rfl
              have x3 := (HR.out.kept0 hJ.gb) 3 _ rfl
              simp only [puts, Act.put, List.setIfInBounds_toArray, List.set_cons_zero, List.set_cons_succ] at hbb
              subst hbb
              go_simp
              exact hK.out _ _ (hJ.pure (gb_refl _ _) rfl rfl)
            · unfold wantL at hw
              simp only [eg] at hw
              exact absurd hw (by decide)
          · intro l t w7 hJ hl hd
            have eg := hJ.val 3 _ rfl (hd 3 (by kernel_rfl))
            refine ⟨fun hw bb hbb K hK => ?_, fun hw => ?_⟩
            · clear hw
              have x0 := (HR.out.kept0 hJ.gb) 0 _ rfl
              have x1 := (HR.out.kept0 hJ.gb) 1 _ rfl
              have x2 := (HR.out.kept0 hJ.gb) 2 _ rfl
              have x3 := (HR.out.kept0 hJ.gb) 3 _ rfl
              simp only [puts, Act.put, List.setIfInBounds_toArray, List.set_cons_zero, List.set_cons_succ] at hbb
              subst hbb
              go_simp
              exact hK.out _ _ (hJ.pure (gb_refl _ _) rfl rfl)
            · unfold wantL at hw
              simp only [eg] at hw
              exact absurd hw (by decide)
          · intro l t w7 hJ hl hd
            have eg := hJ.val 3 _ rfl (hd 3 (by kernel_rfl))
            refine ⟨fun hw bb hbb K hK => ?_, fun hw => ?_⟩
            · clear hw
              have x0 := (HP.out.kept0 hJ.gb) 0 _ rfl
              have x1 := (HP.out.kept0 hJ.gb) 1 _ rfl
              simp only [puts, Act.put, List.setIfInBounds_toArray, List.set_cons_zero, List.set_cons_succ] at hbb
              subst hbb
              go_simp
              exact hK.out _ _ (hJ.pure (gb_refl _ _) rfl rfl)
            · unfold wantL at hw
              simp only [eg] at hw
              exact absurd hw (by decide)
          · intro l t w7 hJ hl hd
            have eg := hJ.val 3 _ rfl (hd 3 (by kernel_rfl))
            refine ⟨fun hw bb hbb K hK => ?_, fun hw => ?_⟩
            · clear hw
              simp only [puts, Act.put, List.setIfInBounds_toArray, List.set_cons_zero, List.set_cons_succ] at hbb
              subst hbb
              go_simp
              exact hK.out _ _ (hJ.pure (gb_refl _ _) rfl rfl)
            · unfold wantL at hw
              simp only [eg] at hw
              exact absurd hw (by decide)
          · intro l t w7 hJ hl hd
            have eg := hJ.val 3 _ rfl (hd 3 (by kernel_rfl))
            refine ⟨fun hw bb hbb K hK => ?_, fun hw => ?_⟩
            · clear hw
              have e7 := hJ.val 7 _ rfl (hd 7 (by kernel_rfl))
              have x0 := (HR.out.kept0 hJ.gb) 0 _ rfl
              have x1 := (HR.out.kept0 hJ.gb) 1 _ rfl
              have x2 := (HR.out.kept0 hJ.gb) 2 _ rfl
              have x3 := (HR.out.kept0 hJ.gb) 3 _ rfl
              simp only [puts, Act.put, List.setIfInBounds_toArray, List.set_cons_zero, List.set_cons_succ] at hbb
              rw [e7] at hbb
              subst hbb
              go_simp
              exact hK.out _ _ (hJ.pure (gb_refl _ _) rfl rfl)
            · unfold wantL at hw
              simp only [eg] at hw
              exact absurd hw (by decide)
          · intro l t w7 hJ hl hd
            have eg := hJ.val 3 _ rfl (hd 3 (by kernel_rfl))
            refine ⟨fun hw bb hbb K hK => ?_, fun hw => ?_⟩
            · clear hw
              have e6 := hJ.val 6 _ rfl (hd 6 (by kernel_rfl))
              have e8 := hJ.val 8 _ rfl (hd 8 (by kernel_rfl))
              simp only [puts, Act.put, List.setIfInBounds_toArray, List.set_cons_zero, List.set_cons_succ] at hbb
              rw [e6] at hbb
              rw [e8] at hbb
              subst hbb
              go_simp
              refine (sub_c p0 p1 b0 b1 _ (by unfold sm; omega) (by unfold sm; omega) (by unfold sm; omega) (by unfold sm; omega)).mono ?_
              rintro e w8 ⟨rfl, hg⟩
              exact hK.out _ _ (hJ.pure hg rfl rfl)
            · unfold wantL at hw
              simp only [eg] at hw
              exact absurd hw (by decide)
          · intro l t w7 hJ hl hd
            have eg := hJ.val 3 _ rfl (hd 3 (by kernel_rfl))
            refine ⟨fun hw bb hbb K hK => ?_, fun hw => ?_⟩
            · clear hw
              have e5 := hJ.val 5 _ rfl (hd 5 (by kernel_rfl))
              have e9 := hJ.val 9 _ rfl (hd 9 (by kernel_rfl))
              simp only [puts, Act.put, List.setIfInBounds_toArray, List.set_cons_zero, List.set_cons_succ] at hbb
              rw [e5] at hbb
              rw [e9] at hbb
              subst hbb
              go_simp
              refine (add_c b0 b1 b2 b3 (p0 - b0) (p1 - b1) _ (by unfold sm; omega) (by unfold sm; omega) (by unfold sm; omega) (by unfold sm; omega) (by unfold sm; omega) (by unfold sm; omega)).mono ?_
              rintro e w8 ⟨rfl, hg⟩
              exact hK.out _ _ (hJ.pure hg rfl rfl)
            · unfold wantL at hw
              simp only [eg] at hw
              exact absurd hw (by decide)
          · intro l t w7 hJ hl hd
            have eg := hJ.val 3 _ rfl (hd 3 (by kernel_rfl))
            refine ⟨fun hw bb hbb K hK => ?_, fun hw => ?_⟩
            · clear hw
              have e4 := hJ.val 4 _ rfl (hd 4 (by kernel_rfl))
              have e10 := hJ.val 10 _ rfl (hd 10 (by kernel_rfl))
              simp only [puts, Act.put, List.setIfInBounds_toArray, List.set_cons_zero, List.set_cons_succ] at hbb
              rw [e4] at hbb
              rw [e10] at hbb
              subst hbb
              go_simp
              refine (overlaps_c b0 b1 b2 b3 (b0 + (p0 - b0)) (b1 + (p1 - b1)) (b2 + (p0 - b0)) (b3 + (p1 - b1)) _).mono ?_
              rintro e w8 ⟨rfl, hg⟩
              rw [HO.out]
              exact hK.out _ _ (hJ.pure hg rfl rfl)
            · unfold wantL at hw
              simp only [eg] at hw
              exact absurd hw (by decide)
          · intro l t w7 hJ hl hd
            refine ⟨fun hw bb hbb K hK => ?_, fun hw => ?_⟩
            · clear hw
              have e3 := hJ.val 3 _ rfl (hd 3 (by kernel_rfl))
              have e11 := hJ.val 11 _ rfl (hd 11 (by kernel_rfl))
              simp only [puts, Act.put, List.setIfInBounds_toArray, List.set_cons_zero, List.set_cons_succ] at hbb
              rw [e3] at hbb
              rw [e11] at hbb
              subst hbb
              go_simp
              exact hK.out _ _ (hJ.pure (gb_refl _ _) rfl rfl)
            · exact Bool.noConfusion (show true = false from hw)
          · intro l t w7 hJ hl hd
            refine ⟨fun hw bb hbb K hK => ?_, fun hw => ?_⟩
            · clear hw
              have e12 := hJ.val 12 _ rfl (hd 12 (by kernel_rfl))
              simp only [puts, Act.put, List.setIfInBounds_toArray, List.set_cons_zero, List.set_cons_succ] at hbb
              rw [e12] at hbb
              subst hbb
              go_simp
              exact hK.out _ _ (hJ.pure (gb_refl _ _) rfl rfl)
            · exact Bool.noConfusion (show true = false from hw)
          · intro l t w7 hJ hl hd
            have eg := hJ.val 13 _ rfl (hd 13 (by kernel_rfl))
            refine ⟨fun hw bb hbb K hK => ?_, fun hw => ?_⟩
            · clear hw
              simp only [puts, Act.put, List.setIfInBounds_toArray, List.set_cons_zero, List.set_cons_succ] at hbb
              subst hbb
              go_simp
              exact hK.out _ _ (hJ.pure (gb_refl _ _) rfl rfl)
            · unfold wantL at hw
              simp only [eg] at hw
              exact absurd hw (by decide)
          · intro l t w7 hJ hl hd
            have eg := hJ.val 13 _ rfl (hd 13 (by kernel_rfl))
            refine ⟨fun hw bb hbb K hK => ?_, fun hw => ?_⟩
            · clear hw
              have e14 := hJ.val 14 _ rfl (hd 14 (by kernel_rfl))
              have x0 := (HP.out.kept0 hJ.gb) 0 _ rfl
              have x1 := (HP.out.kept0 hJ.gb) 1 _ rfl
              simp only [puts, Act.put, List.setIfInBounds_toArray, List.set_cons_zero, List.set_cons_succ] at hbb
              rw [e14] at hbb
              subst hbb
              go_simp
              exact hK.out _ _ (hJ.pure (gb_refl _ _) rfl rfl)
            · unfold wantL at hw
              simp only [eg] at hw
              exact absurd hw (by decide)
          · intro l t w7 hJ hl hd
            have eg := hJ.val 13 _ rfl (hd 13 (by kernel_rfl))
            refine ⟨fun hw bb hbb K hK => ?_, fun hw => ?_⟩
            · clear hw
              simp only [puts, Act.put, List.setIfInBounds_toArray, List.set_cons_zero, List.set_cons_succ] at hbb
              subst hbb
              go_simp
              exact hK.out _ _ (hJ.pure (gb_refl _ _) rfl rfl)
            · unfold wantL at hw
              simp only [eg] at hw
              exact absurd hw (by decide)
          · intro l t w7 hJ hl hd
            have eg := hJ.val 13 _ rfl (hd 13 (by kernel_rfl))
            refine ⟨fun hw bb hbb K hK => ?_, fun hw => ?_⟩
            · clear hw
              have e16 := hJ.val 16 _ rfl (hd 16 (by kernel_rfl))
              simp only [puts, Act.put, List.setIfInBounds_toArray, List.set_cons_zero, List.set_cons_succ] at hbb
              rw [e16] at hbb
              subst hbb
              go_simp
              exact hK.out _ _ (hJ.pure (gb_refl _ _) rfl rfl)
            · unfold wantL at hw
              simp only [eg] at hw
              exact absurd hw (by decide)
          · intro l t w7 hJ hl hd
            have eg := hJ.val 13 _ rfl (hd 13 (by kernel_rfl))
            refine ⟨fun hw bb hbb K hK => ?_, fun hw => ?_⟩
            · clear hw
              have e17 := hJ.val 17 _ rfl (hd 17 (by kernel_rfl))
              have x0 := (HR.out.kept0 hJ.gb) 0 _ rfl
              have x1 := (HR.out.kept0 hJ.gb) 1 _ rfl
              have x2 := (HR.out.kept0 hJ.gb) 2 _ rfl
              have x3 := (HR.out.kept0 hJ.gb) 3 _ rfl
              simp only [puts, Act.put, List.setIfInBounds_toArray, List.set_cons_zero, List.set_cons_succ] at hbb
              rw [e17] at hbb
              subst hbb
              go_simp
              exact hK.out _ _ (hJ.pure (gb_refl _ _) rfl rfl)
            · unfold wantL at hw
              simp only [eg] at hw
              exact absurd hw (by decide)
          · intro l t w7 hJ hl hd
            have eg := hJ.val 13 _ rfl (hd 13 (by kernel_rfl))
            refine ⟨fun hw bb hbb K hK => ?_, fun hw => ?_⟩
            · clear hw
              have e15 := hJ.val 15 _ rfl (hd 15 (by kernel_rfl))
              have e18 := hJ.val 18 _ rfl (hd 18 (by kernel_rfl))
              simp only [puts, Act.put, List.setIfInBounds_toArray, List.set_cons_zero, List.set_cons_succ] at hbb
              rw [e15] at hbb
              rw [e18] at hbb
              subst hbb
              go_simp
              exact hK.out _ _ (hJ.pure (gb_refl _ _) rfl rfl)
            · unfold wantL at hw
              simp only [eg] at hw
              exact absurd hw (by decide)
          · intro l t w7 hJ hl hd
            have eg := hJ.val 13 _ rfl (hd 13 (by kernel_rfl))
            refine ⟨fun hw bb hbb K hK => ?_, fun hw => ?_⟩
            · clear hw
              have e19 := hJ.val 19 _ rfl (hd 19 (by kernel_rfl))
              simp only [puts, Act.put, List.setIfInBounds_toArray, List.set_cons_zero, List.set_cons_succ] at hbb
              rw [e19] at hbb
              subst hbb
              go_simp
              exact hK.out _ _ (hJ.pure (gb_refl _ _) rfl rfl)
            · unfold wantL at hw
              simp only [eg] at hw
              exact absurd hw (by decide)
          · intro l t w7 hJ hl hd
            have eg := hJ.val 20 _ rfl (hd 20 (by kernel_rfl))
            refine ⟨fun hw bb hbb K hK => ?_, fun hw => ?_⟩
            · clear hw
              simp only [puts, Act.put, List.setIfInBounds_toArray, List.set_cons_zero, List.set_cons_succ] at hbb
              subst hbb
              go_simp
              exact hK.out _ _ (hJ.pure (gb_refl _ _) rfl rfl)
            · unfold wantL at hw
              simp only [eg] at hw
              exact absurd hw (by decide)
          · intro l t w7 hJ hl hd
            have eg := hJ.val 20 _ rfl (hd 20 (by kernel_rfl))
            refine ⟨fun hw bb hbb K hK => ?_, fun hw => ?_⟩
            · clear hw
              have e21 := hJ.val 21 _ rfl (hd 21 (by kernel_rfl))
              have x0 := (HP.out.kept0 hJ.gb) 0 _ rfl
              have x1 := (HP.out.kept0 hJ.gb) 1 _ rfl
              simp only [puts, Act.put, List.setIfInBounds_toArray, List.set_cons_zero, List.set_cons_succ] at hbb
              rw [e21] at hbb
              subst hbb
              go_simp
              exact hK.out _ _ (hJ.pure (gb_refl _ _) rfl rfl)
            · unfold wantL at hw
              simp only [eg] at hw
              exact absurd hw (by decide)
          · intro l t w7 hJ hl hd
            have eg := hJ.val 20 _ rfl (hd 20 (by kernel_rfl))
            refine ⟨fun hw bb hbb K hK => ?_, fun hw => ?_⟩
            · clear hw
              simp only [puts, Act.put, List.setIfInBounds_toArray, List.set_cons_zero, List.set_cons_succ] at hbb
              subst hbb
              go_simp
              exact hK.out _ _ (hJ.pure (gb_refl _ _) rfl rfl)
            · unfold wantL at hw
              simp only [eg] at hw
              exact absurd hw (by decide)
          · intro l t w7 hJ hl hd
            have eg := hJ.val 20 _ rfl (hd 20 (by kernel_rfl))
            refine ⟨fun hw bb hbb K hK => ?_, fun hw => ?_⟩
            · clear hw
              have e23 := hJ.val 23 _ rfl (hd 23 (by kernel_rfl))
              simp only [puts, Act.put, List.setIfInBounds_toArray, List.set_cons_zero, List.set_cons_succ] at hbb
              rw [e23] at hbb
              subst hbb
              go_simp
              exact hK.out _ _ (hJ.pure (gb_refl _ _) rfl rfl)
            · unfold wantL at hw
              simp only [eg] at hw
              exact absurd hw (by decide)
          · intro l t w7 hJ hl hd
            have eg := hJ.val 20 _ rfl (hd 20 (by kernel_rfl))
            refine ⟨fun hw bb hbb K hK => ?_, fun hw => ?_⟩
            · clear hw
              have e24 := hJ.val 24 _ rfl (hd 24 (by kernel_rfl))
              have x0 := (HR.out.kept0 hJ.gb) 0 _ rfl
              have x1 := (HR.out.kept0 hJ.gb) 1 _ rfl
              have x2 := (HR.out.kept0 hJ.gb) 2 _ rfl
              have x3 := (HR.out.kept0 hJ.gb) 3 _ rfl
              simp only [puts, Act.put, List.setIfInBounds_toArray, List.set_cons_zero, List.set_cons_succ] at hbb
              rw [e24] at hbb
              subst hbb
              go_simp
              exact hK.out _ _ (hJ.pure (gb_refl _ _) rfl rfl)
            · unfold wantL at hw
              simp only [eg] at hw
              exact absurd hw (by decide)
          · intro l t w7 hJ hl hd
            have eg := hJ.val 20 _ rfl (hd 20 (by kernel_rfl))
            refine ⟨fun hw bb hbb K hK => ?_, fun hw => ?_⟩
            · clear hw
              have e22 := hJ.val 22 _ rfl (hd 22 (by kernel_rfl))
              have e25 := hJ.val 25 _ rfl (hd 25 (by kernel_rfl))
              simp only [puts, Act.put, List.setIfInBounds_toArray, List.set_cons_zero, List.set_cons_succ] at hbb
              rw [e22] at hbb
              rw [e25] at hbb
              subst hbb
              go_simp
              exact hK.out _ _ (hJ.pure (gb_refl _ _) rfl rfl)
            · unfold wantL at hw
              simp only [eg] at hw
              exact absurd hw (by decide)
          · intro l t w7 hJ hl hd
            have eg := hJ.val 20 _ rfl (hd 20 (by kernel_rfl))
            refine ⟨fun hw bb hbb K hK => ?_, fun hw => ?_⟩
            · clear hw
              have e26 := hJ.val 26 _ rfl (hd 26 (by kernel_rfl))
              simp only [puts, Act.put, List.setIfInBounds_toArray, List.set_cons_zero, List.set_cons_succ] at hbb
              rw [e26] at hbb
              subst hbb
              go_simp
              exact hK.out _ _ (hJ.pure (gb_refl _ _) rfl rfl)
            · unfold wantL at hw
              simp only [eg] at hw
              exact absurd hw (by decide)
          · intro l t w7 hJ hl hd
            have eg := hJ.val 27 _ rfl (hd 27 (by kernel_rfl))
            refine ⟨fun hw => ?_, fun hw => hJ.pure (gb_refl _ _) rfl rfl⟩
            unfold wantL at hw
            simp only [eg] at hw
            exact absurd hw (by decide)
          · intro l t w7 hJ hl hd
            have eg := hJ.val 27 _ rfl (hd 27 (by kernel_rfl))
            refine ⟨fun hw => ?_, fun hw => hJ.pure (gb_refl _ _) rfl rfl⟩
            unfold wantL at hw
            simp only [eg] at hw
            exact absurd hw (by decide)
          · intro l t w7 hJ hl hd
            have eg := hJ.val 27 _ rfl (hd 27 (by kernel_rfl))
            refine ⟨fun hw => ?_, fun hw => hJ.pure (gb_refl _ _) rfl rfl⟩
            unfold wantL at hw
            simp only [eg] at hw
            exact absurd hw (by decide)
          · intro l t w7 hJ hl hd
            have eg := hJ.val 27 _ rfl (hd 27 (by kernel_rfl))
            refine ⟨fun hw => ?_, fun hw => hJ.pure (gb_refl _ _) rfl rfl⟩
            unfold wantL at hw
            simp only [eg] at hw
            exact absurd hw (by decide)
          · intro l t w7 hJ hl hd
            have eg := hJ.val 27 _ rfl (hd 27 (by kernel_rfl))
            refine ⟨fun hw => ?_, fun hw => hJ.pure (gb_refl _ _) rfl rfl⟩
            unfold wantL at hw
            simp only [eg] at hw
            exact absurd hw (by decide)
          · intro l t w7 hJ hl hd
            have eg := hJ.val 27 _ rfl (hd 27 (by kernel_rfl))
            refine ⟨fun hw => ?_, fun hw => hJ.pure (gb_refl _ _) rfl rfl⟩
            unfold wantL at hw
            simp only [eg] at hw
            exact absurd hw (by decide)
          · intro l t w7 hJ hl hd
            have eg := hJ.val 20 _ rfl (hd 20 (by kernel_rfl))
            refine ⟨fun hw bb hbb K hK => ?_, fun hw => ?_⟩
            · clear hw
              have e27 := hJ.val 27 _ rfl (hd 27 (by kernel_rfl))
              have e33 := hJ.val 33 _ rfl (hd 33 (by kernel_rfl))
              simp only [puts, Act.put, List.setIfInBounds_toArray, List.set_cons_zero, List.set_cons_succ] at hbb
              rw [e27] at hbb
              rw [e33] at hbb
              subst hbb
              go_simp
              exact hK.out _ _ (hJ.pure (gb_refl _ _) rfl rfl)
            · unfold wantL at hw
              simp only [eg] at hw
              exact absurd hw (by decide)
          · intro l t w7 hJ hl hd
            have eg := hJ.val 13 _ rfl (hd 13 (by kernel_rfl))
            refine ⟨fun hw bb hbb K hK => ?_, fun hw => ?_⟩
            · clear hw
              have e20 := hJ.val 20 _ rfl (hd 20 (by kernel_rfl))
              have e34 := hJ.val 34 _ rfl (hd 34 (by kernel_rfl))
              simp only [puts, Act.put, List.setIfInBounds_toArray, List.set_cons_zero, List.set_cons_succ] at hbb
              rw [e20] at hbb
              rw [e34] at hbb
              subst hbb
              go_simp
              exact hK.out _ _ (hJ.pure (gb_refl _ _) rfl rfl)
            · unfold wantL at hw
              simp only [eg] at hw
              exact absurd hw (by decide)
          · intro l t w7 hJ hl hd
            refine ⟨fun hw bb hbb K hK => ?_, fun hw => ?_⟩
            · clear hw
              have e13 := hJ.val 13 _ rfl (hd 13 (by kernel_rfl))
              have e35 := hJ.val 35 _ rfl (hd 35 (by kernel_rfl))
              simp only [puts, Act.put, List.setIfInBounds_toArray, List.set_cons_zero, List.set_cons_succ] at hbb
              rw [e13] at hbb
              rw [e35] at hbb
              subst hbb
              go_simp
              exact hK.out _ _ (hJ.pure (gb_refl _ _) rfl rfl)
            · exact Bool.noConfusion (show true = false from hw)
          · intro l t w7 hJ hl hd
            refine ⟨fun hw bb hbb K hK => ?_, fun hw => ?_⟩
            · clear hw
              have e36 := hJ.val 36 _ rfl (hd 36 (by kernel_rfl))
              simp only [puts, Act.put, List.setIfInBounds_toArray, List.set_cons_zero, List.set_cons_succ] at hbb
              rw [e36] at hbb
              subst hbb
              go_simp
              exact hK.out _ _ (hJ.pure (gb_refl _ _) rfl rfl)
            · exact Bool.noConfusion (show true = false from hw)
        intro l t w7 hJ hl
        have e37 := hJ.val 37 _ rfl (hl 37 (by decide))
        have HB7 := hid hJ.gb
        clear hJ hl
        simp only [puts, Act.put, List.setIfInBounds_toArray, List.set_cons_zero, List.set_cons_succ]
        rw [e37]
        clear e37
        go_wp2_with fail
        go_ret
        exact ⟨congrArg (fun b => Ending.returned (.bool b)) (show gback _ _ _ _ _ = false from (by unfold gback; rw [HO.out, Hc.out.2]; simp [Hc.out.1])).symm, gb_trans HG.out HB7.out⟩
      · by_cases hlx : p0 < b0
        · have Hc := hid (And.intro hlt (And.intro hq hlx))
          refine wp_region_invg (JV w1 [some (.iface td (.pointer (some ⟨bd, 0, none⟩))), some (.iface td (.pointer (some ⟨bd, 0, none⟩))), some (.bool true), some (.bool true), some (vR b0 b1 b2 b3), some (vR b0 b1 b2 b3), some (vP p0 p1), some (.pointer (some ⟨w.heap.size, 0, none⟩)), some (vP b0 b1), some (vP (p0 - b0) (p1 - b1)), some (vR (b0 + (p0 - b0)) (b1 + (p1 - b1)) (b2 + (p0 - b0)) (b3 + (p1 - b1))), some (.bool true), some (.bool true), some (.bool true), some (.pointer (some ⟨w.heap.size + 1, 1, none⟩)), some (.int .i64 p1), some (.pointer (some ⟨w.heap.size, 0, none⟩)), some (.pointer (some ⟨w.heap.size, 1, none⟩)), some (.int .i64 b1), some (.bool false), some (.bool false), some (.pointer (some ⟨w.heap.size + 1, 1, none⟩)), some (.int .i64 p1), some (.pointer (some ⟨w.heap.size, 0, none⟩)), some (.pointer (some ⟨w.heap.size, 1, none⟩)), some (.int .i64 b1), some (.bool true), some (.bool true), some (.pointer (some ⟨w.heap.size + 1, 0, none⟩)), some (.int .i64 p0), some (.pointer (some ⟨w.heap.size, 0, none⟩)), some (.pointer (some ⟨w.heap.size, 0, none⟩)), some (.int .i64 b0), some (.bool true), some (.bool true), some (.bool true), some (.bool true), some (.bool true)] []) (fun _ => undef) (by kernel_rfl) (by kernel_rfl) (by kernel_rfl) [(0, 9), (1, 10), (2, 11), (3, 12), (4, 13), (5, 14), (6, 15), (7, 16), (8, 17), (9, 18), (10, 19), (11, 20), (12, 21), (13, 22), (14, 23), (15, 24), (16, 25), (17, 26), (18, 27), (19, 28), (20, 29), (21, 30), (22, 31), (23, 32), (24, 33), (25, 34), (26, 35), (27, 36), (28, 37), (29, 38), (30, 39), (31, 40), (32, 41), (33, 42), (34, 43), (35, 44), (36, 45), (37, 8)] (by kernel_rfl) (JV.start (by (repeat (first | exact gb_refl _ _ | refine gb_drew ?_)))) ?_ ?_
          · refine StepsG.cons [] (by kernel_rfl) ?_ (StepsG.cons [] (by kernel_rfl) ?_ (StepsG.cons [(0, 9), (1, 10)] (by kernel_rfl) ?_ (StepsG.cons [(2, 11)] (by kernel_rfl) ?_ (StepsG.cons [] (by kernel_rfl) ?_ (StepsG.cons [] (by kernel_rfl) ?_ (StepsG.cons [] (by kernel_rfl) ?_ (StepsG.cons [] (by kernel_rfl) ?_ (StepsG.cons [(7, 16)] (by kernel_rfl) ?_ (StepsG.cons [(6, 15), (8, 17)] (by kernel_rfl) ?_ (StepsG.cons [(5, 14), (9, 18)] (by kernel_rfl) ?_ (StepsG.cons [(4, 13), (10, 19)] (by kernel_rfl) ?_ (StepsG.cons [(3, 12), (11, 20)] (by kernel_rfl) ?_ (StepsG.cons [(12, 21)] (by kernel_rfl) ?_ (StepsG.cons [] (by kernel_rfl) ?_ (StepsG.cons [(14, 23)] (by kernel_rfl) ?_ (StepsG.cons [] (by kernel_rfl) ?_ (StepsG.cons [(16, 25)] (by kernel_rfl) ?_ (StepsG.cons [(17, 26)] (by kernel_rfl) ?_ (StepsG.cons [(15, 24), (18, 27)] (by kernel_rfl) ?_ (StepsG.cons [(19, 28)] (by kernel_rfl) ?_ (StepsG.cons [] (by kernel_rfl) ?_ (StepsG.cons [(21, 30)] (by kernel_rfl) ?_ (StepsG.cons [] (by kernel_rfl) ?_ (StepsG.cons [(23, 32)] (by kernel_rfl) ?_ (StepsG.cons [(24, 33)] (by kernel_rfl) ?_ (StepsG.cons [(22, 31), (25, 34)] (by kernel_rfl) ?_ (StepsG.cons [(26, 35)] (by kernel_rfl) ?_ (StepsG.cons [] (by kernel_rfl) ?_ (StepsG.cons [(28, 37)] (by kernel_rfl) ?_ (StepsG.cons [] (by kernel_rfl) ?_ (StepsG.cons [(30, 39)] (by kernel_rfl) ?_ (StepsG.cons [(31, 40)] (by kernel_rfl) ?_ (StepsG.cons [(29, 38), (32, 41)] (by kernel_rfl) ?_ (StepsG.cons [(27, 36), (33, 42)] (by kernel_rfl) ?_ (StepsG.cons [(20, 29), (34, 43)] (by kernel_rfl) ?_ (StepsG.cons [(13, 22), (35, 44)] (by kernel_rfl) ?_ (StepsG.cons [(36, 45)] (by kernel_rfl) ?_ (StepsG.nil))))))))))))))))))))))))))))))))))))))
            · intro l t w7 hJ hl hd
              refine ⟨fun hw bb hbb K hK => ?_, fun hw => ?_⟩
              · clear hw
                simp only [puts, Act.put, List.setIfInBounds_toArray, List.set_cons_zero, List.set_cons_succ] at hbb
                subst hbb
                go_simp
                exact hK.out _ _ (hJ.pure (gb_refl _ _) rfl rfl)
              · exact Bool.noConfusion (show true = false from hw)
            · intro l t w7 hJ hl hd
              refine ⟨fun hw bb hbb K hK => ?_, fun hw => ?_⟩
              · clear hw
                simp only [puts, Act.put, List.setIfInBounds_toArray, List.set_cons_zero, List.set_cons_succ] at hbb
                subst hbb
                go_simp
                exact hK.out _ _ (hJ.pure (gb_refl _ _) rfl rfl)
              · exact Bool.noConfusion (show true = false from hw)
            · intro l t w7 hJ hl hd
              refine ⟨fun hw bb hbb K hK => ?_, fun hw => ?_⟩
              · clear hw
                have e0 := hJ.val 0 _ rfl (hd 0 (by kernel_rfl))
                have e1 := hJ.val 1 _ rfl (hd 1 (by kernel_rfl))
                have hEw := HE.out w7
                simp only [puts, Act.put, List.setIfInBounds_toArray, List.set_cons_zero, List.set_cons_succ] at hbb
                rw [e0] at hbb
                rw [e1] at hbb
                subst hbb
                go_simp
                exact hK.out _ _ (hJ.pure (gb_refl _ _) rfl rfl)
              · exact Bool.noConfusion (show true = false from hw)
            · intro l t w7 hJ hl hd
              refine ⟨fun hw bb hbb K hK => ?_, fun hw => ?_⟩
              · clear hw
                have e2 := hJ.val 2 _ rfl (hd 2 (by kernel_rfl))
                simp only [puts, Act.put, List.setIfInBounds_toArray, List.set_cons_zero, List.set_cons_succ] at hbb
                rw [e2] at hbb
                subst hbb
                go_simp
                exact hK.out _ _ (hJ.pure (gb_refl _ _) rfl rfl)
              · exact Bool.noConfusion (show true = false from hw)
            · intro l t w7 hJ hl hd
              have eg := hJ.val 3 _ rfl (hd 3 (by kernel_rfl))
              refine ⟨fun hw bb hbb K hK => ?_, fun hw => ?_⟩
              · clear hw
                have x0 := (HR.out.kept0 hJ.gb) 0 _ rfl
                have x1 := (HR.out.kept0 hJ.gb) 1 _ rfl
                have x2 := (HR.out.kept0 hJ.gb) 2 _ rfl
                have x3 := (HR.out.kept0 hJ.gb) 3 _ rfl
                simp only [puts, Act.put, List.setIfInBounds_toArray, List.set_cons_zero, List.set_cons_succ] at hbb
                subst hbb
                go_simp
                exact hK.out _ _ (hJ.pure (gb_refl _ _) rfl rfl)
              · unfold wantL at hw
                simp only [eg] at hw
                exact absurd hw (by decide)
            · intro l t w7 hJ hl hd
              have eg := hJ.val 3 _ rfl (hd 3 (by kernel_rfl))
              refine ⟨fun hw bb hbb K hK => ?_, fun hw => ?_⟩
              · clear hw
                have x0 := (HR.out.kept0 hJ.gb) 0 _ rfl
                have x1 := (HR.out.kept0 hJ.gb) 1 _ rfl
                have x2 := (HR.out.kept0 hJ.gb) 2 _ rfl
                have x3 := (HR.out.kept0 hJ.gb) 3 _ rfl
                simp only [puts, Act.put, List.setIfInBounds_toArray, List.set_cons_zero, List.set_cons_succ] at hbb
                subst hbb
                go_simp
                exact hK.out _ _ (hJ.pure (gb_refl _ _) rfl rfl)
              · unfold wantL at hw
                simp only [eg] at hw
                exact absurd hw (by decide)
            · intro l t w7 hJ hl hd
              have eg := hJ.val 3 _ rfl (hd 3 (by kernel_rfl))
              refine ⟨fun hw bb hbb K hK => ?_, fun hw => ?_⟩
              · clear hw
                have x0 := (HP.out.kept0 hJ.gb) 0 _ rfl
                have x1 := (HP.out.kept0 hJ.gb) 1 _ rfl
                simp only [puts, Act.put, List.setIfInBounds_toArray, List.set_cons_zero, List.set_cons_succ] at hbb
                subst hbb
                go_simp
                exact hK.out _ _ (hJ.pure (gb_refl _ _) rfl rfl)
              · unfold wantL at hw
                simp only [eg] at hw
                exact absurd hw (by decide)
            · intro l t w7 hJ hl hd
              have eg := hJ.val 3 _ rfl (hd 3 (by kernel_rfl))
              refine ⟨fun hw bb hbb K hK => ?_, fun hw => ?_⟩
              · clear hw
                simp only [puts, Act.put, List.setIfInBounds_toArray, List.set_cons_zero, List.set_cons_succ] at hbb
                subst hbb
                go_simp
                exact hK.out _ _ (hJ.pure (gb_refl _ _) rfl rfl)
              · unfold wantL at hw
                simp only [eg] at hw
                exact absurd hw (by decide)
            · intro l t w7 hJ hl hd
              have eg := hJ.val 3 _ rfl (hd 3 (by kernel_rfl))
              refine ⟨fun hw bb hbb K hK => ?_, fun hw => ?_⟩
              · clear hw
                have e7 := hJ.val 7 _ rfl (hd 7 (by kernel_rfl))
                have x0 := (HR.out.kept0 hJ.gb) 0 _ rfl
                have x1 := (HR.out.kept0 hJ.gb) 1 _ rfl
                have x2 := (HR.out.kept0 hJ.gb) 2 _ rfl
                have x3 := (HR.out.kept0 hJ.gb) 3 _ rfl
                simp only [puts, Act.put, List.setIfInBounds_toArray, List.set_cons_zero, List.set_cons_succ] at hbb
                rw [e7] at hbb
                subst hbb
                go_simp
                exact hK.out _ _ (hJ.pure (gb_refl _ _) rfl rfl)
              · unfold wantL at hw
                simp only [eg] at hw
                exact absurd hw (by decide)
            · intro l t w7 hJ hl hd
              have eg := hJ.val 3 _ rfl (hd 3 (by kernel_rfl))
              refine ⟨fun hw bb hbb K hK => ?_, fun hw => ?_⟩
              · clear hw
                have e6 := hJ.val 6 _ rfl (hd 6 (by kernel_rfl))
                have e8 := hJ.val 8 _ rfl (hd 8 (by kernel_rfl))
                simp only [puts, Act.put, List.setIfInBounds_toArray, List.set_cons_zero, List.set_cons_succ] at hbb
                rw [e6] at hbb
                rw [e8] at hbb
                subst hbb
                go_simp
                refine (sub_c p0 p1 b0 b1 _ (by unfold sm; omega) (by unfold sm; omega) (by unfold sm; omega) (by unfold sm; omega)).mono ?_
                rintro e w8 ⟨rfl, hg⟩
                exact hK.out _ _ (hJ.pure hg rfl rfl)
              · unfold wantL at hw
                simp only [eg] at hw
                exact absurd hw (by decide)
            · intro l t w7 hJ hl hd
              have eg := hJ.val 3 _ rfl (hd 3 (by kernel_rfl))
              refine ⟨fun hw bb hbb K hK => ?_, fun hw => ?_⟩
              · clear hw
                have e5 := hJ.val 5 _ rfl (hd 5 (by kernel_rfl))
                have e9 := hJ.val 9 _ rfl (hd 9 (by kernel_rfl))
                simp only [puts, Act.put, List.setIfInBounds_toArray, List.set_cons_zero, List.set_cons_succ] at hbb
                rw [e5] at hbb
                rw [e9] at hbb
                subst hbb
                go_simp
                refine (add_c b0 b1 b2 b3 (p0 - b0) (p1 - b1) _ (by unfold sm; omega) (by unfold sm; omega) (by unfold sm; omega) (by unfold sm; omega) (by unfold sm; omega) (by unfold sm; omega)).mono ?_
                rintro e w8 ⟨rfl, hg⟩
                exact hK.out _ _ (hJ.pure hg rfl rfl)
              · unfold wantL at hw
                simp only [eg] at hw
                exact absurd hw (by decide)
            · intro l t w7 hJ hl hd
              have eg := hJ.val 3 _ rfl (hd 3 (by kernel_rfl))
              refine ⟨fun hw bb hbb K hK => ?_, fun hw => ?_⟩
              · clear hw
                have e4 := hJ.val 4 _ rfl (hd 4 (by kernel_rfl))
                have e10 := hJ.val 10 _ rfl (hd 10 (by kernel_rfl))
                simp only [puts, Act.put, List.setIfInBounds_toArray, List.set_cons_zero, List.set_cons_succ] at hbb
                rw [e4] at hbb
                rw [e10] at hbb
                subst hbb
                go_simp
                refine (overlaps_c b0 b1 b2 b3 (b0 + (p0 - b0)) (b1 + (p1 - b1)) (b2 + (p0 - b0)) (b3 + (p1 - b1)) _).mono ?_
                rintro e w8 ⟨rfl, hg⟩
                rw [HO.out]
                exact hK.out _ _ (hJ.pure hg rfl rfl)
              · unfold wantL at hw
                simp only [eg] at hw
                exact absurd hw (by decide)
            · intro l t w7 hJ hl hd
              refine ⟨fun hw bb hbb K hK => ?_, fun hw => ?_⟩
              · clear hw
                have e3 := hJ.val 3 _ rfl (hd 3 (by kernel_rfl))
                have e11 := hJ.val 11 _ rfl (hd 11 (by kernel_rfl))
                simp only [puts, Act.put, List.setIfInBounds_toArray, List.set_cons_zero, List.set_cons_succ] at hbb
                rw [e3] at hbb
                rw [e11] at hbb
                subst hbb
                go_simp
                exact hK.out _ _ (hJ.pure (gb_refl _ _) rfl rfl)
              · exact Bool.noConfusion (show true = false from hw)
            · intro l t w7 hJ hl hd
              refine ⟨fun hw bb hbb K hK => ?_, fun hw => ?_⟩
              · clear hw
                have e12 := hJ.val 12 _ rfl (hd 12 (by kernel_rfl))
                simp only [puts, Act.put, List.setIfInBounds_toArray, List.set_cons_zero, List.set_cons_succ] at hbb
                rw [e12] at hbb
                subst hbb
                go_simp
                exact hK.out _ _ (hJ.pure (gb_refl _ _) rfl rfl)
              · exact Bool.noConfusion (show true = false from hw)
            · intro l t w7 hJ hl hd
              have eg := hJ.val 13 _ rfl (hd 13 (by kernel_rfl))
              refine ⟨fun hw bb hbb K hK => ?_, fun hw => ?_⟩
              · clear hw
                simp only [puts, Act.put, List.setIfInBounds_toArray, List.set_cons_zero, List.set_cons_succ] at hbb
                subst hbb
                go_simp
                exact hK.out _ _ (hJ.pure (gb_refl _ _) rfl rfl)
              · unfold wantL at hw
                simp only [eg] at hw
                exact absurd hw (by decide)
            · intro l t w7 hJ hl hd
              have eg := hJ.val 13 _ rfl (hd 13 (by kernel_rfl))
              refine ⟨fun hw bb hbb K hK => ?_, fun hw => ?_⟩
              · clear hw
                have e14 := hJ.val 14 _ rfl (hd 14 (by kernel_rfl))
                have x0 := (HP.out.kept0 hJ.gb) 0 _ rfl
                have x1 := (HP.out.kept0 hJ.gb) 1 _ rfl
                simp only [puts, Act.put, List.setIfInBounds_toArray, List.set_cons_zero, List.set_cons_succ] at hbb
                rw [e14] at hbb
                subst hbb
                go_simp
                exact hK.out _ _ (hJ.pure (gb_refl _ _) rfl rfl)
              · unfold wantL at hw
                simp only [eg] at hw
                exact absurd hw (by decide)
            · intro l t w7 hJ hl hd
              have eg := hJ.val 13 _ rfl (hd 13 (by kernel_rfl))
              refine ⟨fun hw bb hbb K hK => ?_, fun hw => ?_⟩
              · clear hw
                simp only [puts, Act.put, List.setIfInBounds_toArray, List.set_cons_zero, List.set_cons_succ] at hbb
                subst hbb
                go_simp
                exact hK.out _ _ (hJ.pure (gb_refl _ _) rfl rfl)
              · unfold wantL at hw
                simp only [eg] at hw
                exact absurd hw (by decide)
            · intro l t w7 hJ hl hd
              have eg := hJ.val 13 _ rfl (hd 13 (by kernel_rfl))
              refine ⟨fun hw bb hbb K hK => ?_, fun hw => ?_⟩
              · clear hw
                have e16 := hJ.val 16 _ rfl (hd 16 (by kernel_rfl))
                simp only [puts, Act.put, List.setIfInBounds_toArray, List.set_cons_zero, List.set_cons_succ] at hbb
                rw [e16] at hbb
                subst hbb
                go_simp
                exact hK.out _ _ (hJ.pure (gb_refl _ _) rfl rfl)
              · unfold wantL at hw
                simp only [eg] at hw
                exact absurd hw (by decide)
            · intro l t w7 hJ hl hd
              have eg := hJ.val 13 _ rfl (hd 13 (by kernel_rfl))
              refine ⟨fun hw bb hbb K hK => ?_, fun hw => ?_⟩
              · clear hw
                have e17 := hJ.val 17 _ rfl (hd 17 (by kernel_rfl))
                have x0 := (HR.out.kept0 hJ.gb) 0 _ rfl
                have x1 := (HR.out.kept0 hJ.gb) 1 _ rfl
                have x2 := (HR.out.kept0 hJ.gb) 2 _ rfl
                have x3 := (HR.out.kept0 hJ.gb) 3 _ rfl
                simp only [puts, Act.put, List.setIfInBounds_toArray, List.set_cons_zero, List.set_cons_succ] at hbb
                rw [e17] at hbb
                subst hbb
                go_simp
                exact hK.out _ _ (hJ.pure (gb_refl _ _) rfl rfl)
              · unfold wantL at hw
                simp only [eg] at hw
                exact absurd hw (by decide)
            · intro l t w7 hJ hl hd
              have eg := hJ.val 13 _ rfl (hd 13 (by kernel_rfl))
              refine ⟨fun hw bb hbb K hK => ?_, fun hw => ?_⟩
              · clear hw
                have e15 := hJ.val 15 _ rfl (hd 15 (by kernel_rfl))
                have e18 := hJ.val 18 _ rfl (hd 18 (by kernel_rfl))
                simp only [puts, Act.put, List.setIfInBounds_toArray, List.set_cons_zero, List.set_cons_succ] at hbb
                rw [e15] at hbb
                rw [e18] at hbb
                subst hbb
                go_simp
                exact hK.out _ _ (hJ.pure (gb_refl _ _) rfl rfl)
              · unfold wantL at hw
                simp only [eg] at hw
                exact absurd hw (by decide)
            · intro l t w7 hJ hl hd
              have eg := hJ.val 13 _ rfl (hd 13 (by kernel_rfl))
              refine ⟨fun hw bb hbb K hK => ?_, fun hw => ?_⟩
              · clear hw
                have e19 := hJ.val 19 _ rfl (hd 19 (by kernel_rfl))
                simp only [puts, Act.put, List.setIfInBounds_toArray, List.set_cons_zero, List.set_cons_succ] at hbb
                rw [e19] at hbb
                subst hbb
                go_simp
                exact hK.out _ _ (hJ.pure (gb_refl _ _) rfl rfl)
              · unfold wantL at hw
                simp only [eg] at hw
                exact absurd hw (by decide)
            · intro l t w7 hJ hl hd
              have eg := hJ.val 20 _ rfl (hd 20 (by kernel_rfl))
              refine ⟨fun hw bb hbb K hK => ?_, fun hw => ?_⟩
              · clear hw
                simp only [puts, Act.put, List.setIfInBounds_toArray, List.set_cons_zero, List.set_cons_succ] at hbb
                subst hbb
                go_simp
                exact hK.out _ _ (hJ.pure (gb_refl _ _) rfl rfl)
              · unfold wantL at hw
                simp only [eg] at hw
                exact absurd hw (by decide)
            · intro l t w7 hJ hl hd
              have eg := hJ.val 20 _ rfl (hd 20 (by kernel_rfl))
              refine ⟨fun hw bb hbb K hK => ?_, fun hw => ?_⟩
              · clear hw
                have e21 := hJ.val 21 _ rfl (hd 21 (by kernel_rfl))
                have x0 := (HP.out.kept0 hJ.gb) 0 _ rfl
                have x1 := (HP.out.kept0 hJ.gb) 1 _ rfl
                simp only [puts, Act.put, List.setIfInBounds_toArray, List.set_cons_zero, List.set_cons_succ] at hbb
                rw [e21] at hbb
                subst hbb
                go_simp
                exact hK.out _ _ (hJ.pure (gb_refl _ _) rfl rfl)
              · unfold wantL at hw
                simp only [eg] at hw
                exact absurd hw (by decide)
            · intro l t w7 hJ hl hd
              have eg := hJ.val 20 _ rfl (hd 20 (by kernel_rfl))
              refine ⟨fun hw bb hbb K hK => ?_, fun hw => ?_⟩
              · clear hw
                simp only [puts, Act.put, List.setIfInBounds_toArray, List.set_cons_zero, List.set_cons_succ] at hbb
                subst hbb
                go_simp
                exact hK.out _ _ (hJ.pure (gb_refl _ _) rfl rfl)
              · unfold wantL at hw
                simp only [eg] at hw
                exact absurd hw (by decide)
            · intro l t w7 hJ hl hd
              have eg := hJ.val 20 _ rfl (hd 20 (by kernel_rfl))
              refine ⟨fun hw bb hbb K hK => ?_, fun hw => ?_⟩
              · clear hw
                have e23 := hJ.val 23 _ rfl (hd 23 (by kernel_rfl))
                simp only [puts, Act.put, List.setIfInBounds_toArray, List.set_cons_zero, List.set_cons_succ] at hbb
                rw [e23] at hbb
                subst hbb
                go_simp
                exact hK.out _ _ (hJ.pure (gb_refl _ _) rfl rfl)
              · unfold wantL at hw
                simp only [eg] at hw
                exact absurd hw (by decide)
            · intro l t w7 hJ hl hd
              have eg := hJ.val 20 _ rfl (hd 20 (by kernel_rfl))
              refine ⟨fun hw bb hbb K hK => ?_, fun hw => ?_⟩
              · clear hw
                have e24 := hJ.val 24 _ rfl (hd 24 (by kernel_rfl))
                have x0 := (HR.out.kept0 hJ.gb) 0 _ rfl
                have x1 := (HR.out.kept0 hJ.gb) 1 _ rfl
                have x2 := (HR.out.kept0 hJ.gb) 2 _ rfl
                have x3 := (HR.out.kept0 hJ.gb) 3 _ rfl
                simp only [puts, Act.put, List.setIfInBounds_toArray, List.set_cons_zero, List.set_cons_succ] at hbb
                rw [e24] at hbb
                subst hbb
                go_simp
                exact hK.out _ _ (hJ.pure (gb_refl _ _) rfl rfl)
              · unfold wantL at hw
                simp only [eg] at hw
                exact absurd hw (by decide)
            · intro l t w7 hJ hl hd
              have eg := hJ.val 20 _ rfl (hd 20 (by kernel_rfl))
              refine ⟨fun hw bb hbb K hK => ?_, fun hw => ?_⟩
              · clear hw
                have e22 := hJ.val 22 _ rfl (hd 22 (by kernel_rfl))
                have e25 := hJ.val 25 _ rfl (hd 25 (by kernel_rfl))
                simp only [puts, Act.put, List.setIfInBounds_toArray, List.set_cons_zero, List.set_cons_succ] at hbb
                rw [e22] at hbb
                rw [e25] at hbb
                subst hbb
                go_simp
                exact hK.out _ _ (hJ.pure (gb_refl _ _) rfl rfl)
              · unfold wantL at hw
                simp only [eg] at hw
                exact absurd hw (by decide)
            · intro l t w7 hJ hl hd
              have eg := hJ.val 20 _ rfl (hd 20 (by kernel_rfl))
              refine ⟨fun hw bb hbb K hK => ?_, fun hw => ?_⟩
              · clear hw
                have e26 := hJ.val 26 _ rfl (hd 26 (by kernel_rfl))
                simp only [puts, Act.put, List.setIfInBounds_toArray, List.set_cons_zero, List.set_cons_succ] at hbb
                rw [e26] at hbb
                subst hbb
                go_simp
                exact hK.out _ _ (hJ.pure (gb_refl _ _) rfl rfl)
              · unfold wantL at hw
                simp only [eg] at hw
                exact absurd hw (by decide)
            · intro l t w7 hJ hl hd
              have eg := hJ.val 27 _ rfl (hd 27 (by kernel_rfl))
              refine ⟨fun hw bb hbb K hK => ?_, fun hw => ?_⟩
              · clear hw
                simp only [puts, Act.put, List.setIfInBounds_toArray, List.set_cons_zero, List.set_cons_succ] at hbb
                subst hbb
                go_simp
                exact hK.out _ _ (hJ.pure (gb_refl _ _) rfl rfl)
              · unfold wantL at hw
                simp only [eg] at hw
                exact absurd hw (by decide)
            · intro l t w7 hJ hl hd
              have eg := hJ.val 27 _ rfl (hd 27 (by kernel_rfl))
              refine ⟨fun hw bb hbb K hK => ?_, fun hw => ?_⟩
              · clear hw
                have e28 := hJ.val 28 _ rfl (hd 28 (by kernel_rfl))
                have x0 := (HP.out.kept0 hJ.gb) 0 _ rfl
                have x1 := (HP.out.kept0 hJ.gb) 1 _ rfl
                simp only [puts, Act.put, List.setIfInBounds_toArray, List.set_cons_zero, List.set_cons_succ] at hbb
                rw [e28] at hbb
                subst hbb
                go_simp
                exact hK.out _ _ (hJ.pure (gb_refl _ _) rfl rfl)
              · unfold wantL at hw
                simp only [eg] at hw
                exact absurd hw (by decide)
            · intro l t w7 hJ hl hd
              have eg := hJ.val 27 _ rfl (hd 27 (by kernel_rfl))
              refine ⟨fun hw bb hbb K hK => ?_, fun hw => ?_⟩
              · clear hw
                simp only [puts, Act.put, List.setIfInBounds_toArray, List.set_cons_zero, List.set_cons_succ] at hbb
                subst hbb
                go_simp
                exact hK.out _ _ (hJ.pure (gb_refl _ _) rfl rfl)
              · unfold wantL at hw
                simp only [eg] at hw
                exact absurd hw (by decide)
            · intro l t w7 hJ hl hd
              have eg := hJ.val 27 _ rfl (hd 27 (by kernel_rfl))
              refine ⟨fun hw bb hbb K hK => ?_, fun hw => ?_⟩
              · clear hw
                have e30 := hJ.val 30 _ rfl (hd 30 (by kernel_rfl))
                simp only [puts, Act.put, List.setIfInBounds_toArray, List.set_cons_zero, List.set_cons_succ] at hbb
                rw [e30] at hbb
                subst hbb
                go_simp
                exact hK.out _ _ (hJ.pure (gb_refl _ _) rfl rfl)
              · unfold wantL at hw
                simp only [eg] at hw
                exact absurd hw (by decide)
            · intro l t w7 hJ hl hd
              have eg := hJ.val 27 _ rfl (hd 27 (by kernel_rfl))
              refine ⟨fun hw bb hbb K hK => ?_, fun hw => ?_⟩
              · clear hw
                have e31 := hJ.val 31 _ rfl (hd 31 (by kernel_rfl))
                have x0 := (HR.out.kept0 hJ.gb) 0 _ rfl
                have x1 := (HR.out.kept0 hJ.gb) 1 _ rfl
                have x2 := (HR.out.kept0 hJ.gb) 2 _ rfl
                have x3 := (HR.out.kept0 hJ.gb) 3 _ rfl
                simp only [puts, Act.put, List.setIfInBounds_toArray, List.set_cons_zero, List.set_cons_succ] at hbb
                rw [e31] at hbb
                subst hbb
                go_simp
                exact hK.out _ _ (hJ.pure (gb_refl _ _) rfl rfl)
              · unfold wantL at hw
                simp only [eg] at hw
                exact absurd hw (by decide)
            · intro l t w7 hJ hl hd
              have eg := hJ.val 27 _ rfl (hd 27 (by kernel_rfl))
              refine ⟨fun hw bb hbb K hK => ?_, fun hw => ?_⟩
              · clear hw
                have e29 := hJ.val 29 _ rfl (hd 29 (by kernel_rfl))
                have e32 := hJ.val 32 _ rfl (hd 32 (by kernel_rfl))
                simp only [puts, Act.put, List.setIfInBounds_toArray, List.set_cons_zero, List.set_cons_succ] at hbb
                rw [e29] at hbb
                rw [e32] at hbb
                subst hbb
                go_simp
                exact hK.out _ _ (hJ.pure (gb_refl _ _) rfl rfl)
              · unfold wantL at hw
                simp only [eg] at hw
                exact absurd hw (by decide)
            · intro l t w7 hJ hl hd
              have eg := hJ.val 20 _ rfl (hd 20 (by kernel_rfl))
              refine ⟨fun hw bb hbb K hK => ?_, fun hw => ?_⟩
              · clear hw
                have e27 := hJ.val 27 _ rfl (hd 27 (by kernel_rfl))
                have e33 := hJ.val 33 _ rfl (hd 33 (by kernel_rfl))
                simp only [puts, Act.put, List.setIfInBounds_toArray, List.set_cons_zero, List.set_cons_succ] at hbb
                rw [e27] at hbb
                rw [e33] at hbb
                subst hbb
                go_simp
                exact hK.out _ _ (hJ.pure (gb_refl _ _) rfl rfl)
              · unfold wantL at hw
                simp only [eg] at hw
                exact absurd hw (by decide)
            · intro l t w7 hJ hl hd
              have eg := hJ.val 13 _ rfl (hd 13 (by kernel_rfl))
              refine ⟨fun hw bb hbb K hK => ?_, fun hw => ?_⟩
              · clear hw
                have e20 := hJ.val 20 _ rfl (hd 20 (by kernel_rfl))
                have e34 := hJ.val 34 _ rfl (hd 34 (by kernel_rfl))
                simp only [puts, Act.put, List.setIfInBounds_toArray, List.set_cons_zero, List.set_cons_succ] at hbb
                rw [e20] at hbb
                rw [e34] at hbb
                subst hbb
                go_simp
                exact hK.out _ _ (hJ.pure (gb_refl _ _) rfl rfl)
              · unfold wantL at hw
                simp only [eg] at hw
                exact absurd hw (by decide)
            · intro l t w7 hJ hl hd
              refine ⟨fun hw bb hbb K hK => ?_, fun hw => ?_⟩
              · clear hw
                have e13 := hJ.val 13 _ rfl (hd 13 (by kernel_rfl))
                have e35 := hJ.val 35 _ rfl (hd 35 (by kernel_rfl))
                simp only [puts, Act.put, List.setIfInBounds_toArray, List.set_cons_zero, List.set_cons_succ] at hbb
                rw [e13] at hbb
                rw [e35] at hbb
                subst hbb
                go_simp
                exact hK.out _ _ (hJ.pure (gb_refl _ _) rfl rfl)
              · exact Bool.noConfusion (show true = false from hw)
            · intro l t w7 hJ hl hd
              refine ⟨fun hw bb hbb K hK => ?_, fun hw => ?_⟩
              · clear hw
                have e36 := hJ.val 36 _ rfl (hd 36 (by kernel_rfl))
                simp only [puts, Act.put, List.setIfInBounds_toArray, List.set_cons_zero, List.set_cons_succ] at hbb
                rw [e36] at hbb
                subst hbb
                go_simp
                exact hK.out _ _ (hJ.pure (gb_refl _ _) rfl rfl)
              · exact Bool.noConfusion (show true = false from hw)
          intro l t w7 hJ hl
          have e37 := hJ.val 37 _ rfl (hl 37 (by decide))
          have HB7 := hid hJ.gb
          clear hJ hl
          simp only [puts, Act.put, List.setIfInBounds_toArray, List.set_cons_zero, List.set_cons_succ]
          rw [e37]
          clear e37
          go_wp2_with fail
          go_ret
          exact ⟨congrArg (fun b => Ending.returned (.bool b)) (show gback _ _ _ _ _ = true from (by unfold gback; rw [HO.out, Hc.out.2.1]; simp [Hc.out.2.2])).symm, gb_trans HG.out HB7.out⟩
        · have Hc := hid (And.intro hlt (And.intro hq hlx))
          refine wp_region_invg (JV w1 [some (.iface td (.pointer (some ⟨bd, 0, none⟩))), some (.iface td (.pointer (some ⟨bd, 0, none⟩))), some (.bool true), some (.bool true), some (vR b0 b1 b2 b3), some (vR b0 b1 b2 b3), some (vP p0 p1), some (.pointer (some ⟨w.heap.size, 0, none⟩)), some (vP b0 b1), some (vP (p0 - b0) (p1 - b1)), some (vR (b0 + (p0 - b0)) (b1 + (p1 - b1)) (b2 + (p0 - b0)) (b3 + (p1 - b1))), some (.bool true), some (.bool true), some (.bool true), some (.pointer (some ⟨w.heap.size + 1, 1, none⟩)), some (.int .i64 p1), some (.pointer (some ⟨w.heap.size, 0, none⟩)), some (.pointer (some ⟨w.heap.size, 1, none⟩)), some (.int .i64 b1), some (.bool false), some (.bool false), some (.pointer (some ⟨w.heap.size + 1, 1, none⟩)), some (.int .i64 p1), some (.pointer (some ⟨w.heap.size, 0, none⟩)), some (.pointer (some ⟨w.heap.size, 1, none⟩)), some (.int .i64 b1), some (.bool true), some (.bool true), some (.pointer (some ⟨w.heap.size + 1, 0, none⟩)), some (.int .i64 p0), some (.pointer (some ⟨w.heap.size, 0, none⟩)), some (.pointer (some ⟨w.heap.size, 0, none⟩)), some (.int .i64 b0), some (.bool false), some (.bool false), some (.bool false), some (.bool false), some (.bool false)] []) (fun _ => undef) (by kernel_rfl) (by kernel_rfl) (by kernel_rfl) [(0, 9), (1, 10), (2, 11), (3, 12), (4, 13), (5, 14), (6, 15), (7, 16), (8, 17), (9, 18), (10, 19), (11, 20), (12, 21), (13, 22), (14, 23), (15, 24), (16, 25), (17, 26), (18, 27), (19, 28), (20, 29), (21, 30), (22, 31), (23, 32), (24, 33), (25, 34), (26, 35), (27, 36), (28, 37), (29, 38), (30, 39), (31, 40), (32, 41), (33, 42), (34, 43), (35, 44), (36, 45), (37, 8)] (by kernel_rfl) (JV.start (by (repeat (first | exact gb_refl _ _ | refine gb_drew ?_)))) ?_ ?_
          · refine StepsG.cons [] (by kernel_rfl) ?_ (StepsG.cons [] (by kernel_rfl) ?_ (StepsG.cons [(0, 9), (1, 10)] (by kernel_rfl) ?_ (StepsG.cons [(2, 11)] (by kernel_rfl) ?_ (StepsG.cons [] (by kernel_rfl) ?_ (StepsG.cons [] (by kernel_rfl) ?_ (StepsG.cons [] (by kernel_rfl) ?_ (StepsG.cons [] (by kernel_rfl) ?_ (StepsG.cons [(7, 16)] (by kernel_rfl) ?_ (StepsG.cons [(6, 15), (8, 17)] (by kernel_rfl) ?_ (StepsG.cons [(5, 14), (9, 18)] (by kernel_rfl) ?_ (StepsG.cons [(4, 13), (10, 19)] (by kernel_rfl) ?_ (StepsG.cons [(3, 12), (11, 20)] (by kernel_rfl) ?_ (StepsG.cons [(12, 21)] (by kernel_rfl) ?_ (StepsG.cons [] (by kernel_rfl) ?_ (StepsG.cons [(14, 23)] (by kernel_rfl) ?_ (StepsG.cons [] (by kernel_rfl) ?_ (StepsG.cons [(16, 25)] (by kernel_rfl) ?_ (StepsG.cons [(17, 26)] (by kernel_rfl) ?_ (StepsG.cons [(15, 24), (18, 27)] (by kernel_rfl) ?_ (StepsG.cons [(19, 28)] (by kernel_rfl) ?_ (StepsG.cons [] (by kernel_rfl) ?_ (StepsG.cons [(21, 30)] (by kernel_rfl) ?_ (StepsG.cons [] (by kernel_rfl) ?_ (StepsG.cons [(23, 32)] (by kernel_rfl) ?_ (StepsG.cons [(24, 33)] (by kernel_rfl) ?_ (StepsG.cons [(22, 31), (25, 34)] (by kernel_rfl) ?_ (StepsG.cons [(26, 35)] (by kernel_rfl) ?_ (StepsG.cons [] (by kernel_rfl) ?_ (StepsG.cons [(28, 37)] (by kernel_rfl) ?_ (StepsG.cons [] (by kernel_rfl) ?_ (StepsG.cons [(30, 39)] (by kernel_rfl) ?_ (StepsG.cons [(31, 40)] (by kernel_rfl) ?_ (StepsG.cons [(29, 38), (32, 41)] (by kernel_rfl) ?_ (StepsG.cons [(27, 36), (33, 42)] (by kernel_rfl) ?_ (StepsG.cons [(20, 29), (34, 43)] (by kernel_rfl) ?_ (StepsG.cons [(13, 22), (35, 44)] (by kernel_rfl) ?_ (StepsG.cons [(36, 45)] (by kernel_rfl) ?_ (StepsG.nil))))))))))))))))))))))))))))))))))))))
            · intro l t w7 hJ hl hd
              refine ⟨fun hw bb hbb K hK => ?_, fun hw => ?_⟩
              · clear hw
                simp only [puts, Act.put, List.setIfInBounds_toArray, List.set_cons_zero, List.set_cons_succ] at hbb
                subst hbb
                go_simp
                exact hK.out _ _ (hJ.pure (gb_refl _ _) rfl rfl)
              · exact Bool.noConfusion (show true = false from hw)
            · intro l t w7 hJ hl hd
              refine ⟨fun hw bb hbb K hK => ?_, fun hw => ?_⟩
              · clear hw
                simp only [puts, Act.put, List.setIfInBounds_toArray, List.set_cons_zero, List.set_cons_succ] at hbb
                subst hbb
                go_simp
                exact hK.out _ _ (hJ.pure (gb_refl _ _) rfl rfl)
              · exact Bool.noConfusion (show true = false from hw)
            · intro l t w7 hJ hl hd
              refine ⟨fun hw bb hbb K hK => ?_, fun hw => ?_⟩
              · clear hw
                have e0 := hJ.val 0 _ rfl (hd 0 (by kernel_rfl))
                have e1 := hJ.val 1 _ rfl (hd 1 (by kernel_rfl))
                have hEw := HE.out w7
                simp only [puts, Act.put, List.setIfInBounds_toArray, List.set_cons_zero, List.set_cons_succ] at hbb
                rw [e0] at hbb
                rw [e1] at hbb
                subst hbb
                go_simp
                exact hK.out _ _ (hJ.pure (gb_refl _ _) rfl rfl)
              · exact Bool.noConfusion (show true = false from hw)
            · intro l t w7 hJ hl hd
              refine ⟨fun hw bb hbb K hK => ?_, fun hw => ?_⟩
              · clear hw
                have e2 := hJ.val 2 _ rfl (hd 2 (by kernel_rfl))
                simp only [puts, Act.put, List.setIfInBounds_toArray, List.set_cons_zero, List.set_cons_succ] at hbb
                rw [e2] at hbb
                subst hbb
                go_simp
                exact hK.out _ _ (hJ.pure (gb_refl _ _) rfl rfl)
              · exact Bool.noConfusion (show true = false from hw)
            · intro l t w7 hJ hl hd
              have eg := hJ.val 3 _ rfl (hd 3 (by kernel_rfl))
              refine ⟨fun hw bb hbb K hK => ?_, fun hw => ?_⟩
              · clear hw
                have x0 := (HR.out.kept0 hJ.gb) 0 _ rfl
                have x1 := (HR.out.kept0 hJ.gb) 1 _ rfl
                have x2 := (HR.out.kept0 hJ.gb) 2 _ rfl
                have x3 := (HR.out.kept0 hJ.gb) 3 _ rfl
                simp only [puts, Act.put, List.setIfInBounds_toArray, List.set_cons_zero, List.set_cons_succ] at hbb
                subst hbb
                go_simp
                exact hK.out _ _ (hJ.pure (gb_refl _ _) rfl rfl)
              · unfold wantL at hw
                simp only [eg] at hw
                exact absurd hw (by decide)
            · intro l t w7 hJ hl hd
              have eg := hJ.val 3 _ rfl (hd 3 (by kernel_rfl))
              refine ⟨fun hw bb hbb K hK => ?_, fun hw => ?_⟩
              · clear hw
                have x0 := (HR.out.kept0 hJ.gb) 0 _ rfl
                have x1 := (HR.out.kept0 hJ.gb) 1 _ rfl
                have x2 := (HR.out.kept0 hJ.gb) 2 _ rfl
                have x3 := (HR.out.kept0 hJ.gb) 3 _ rfl
                simp only [puts, Act.put, List.setIfInBounds_toArray, List.set_cons_zero, List.set_cons_succ] at hbb
                subst hbb
                go_simp
                exact hK.out _ _ (hJ.pure (gb_refl _ _) rfl rfl)
              · unfold wantL at hw
                simp only [eg] at hw
                exact absurd hw (by decide)
            · intro l t w7 hJ hl hd
              have eg := hJ.val 3 _ rfl (hd 3 (by kernel_rfl))
              refine ⟨fun hw bb hbb K hK => ?_, fun hw => ?_⟩
              · clear hw
                have x0 := (HP.out.kept0 hJ.gb) 0 _ rfl
                have x1 := (HP.out.kept0 hJ.gb) 1 _ rfl
                simp only [puts, Act.put, List.setIfInBounds_toArray, List.set_cons_zero, List.set_cons_succ] at hbb
                subst hbb
                go_simp
                exact hK.out _ _ (hJ.pure (gb_refl _ _) rfl rfl)
              · unfold wantL at hw
                simp only [eg] at hw
                exact absurd hw (by decide)
            · intro l t w7 hJ hl hd
              have eg := hJ.val 3 _ rfl (hd 3 (by kernel_rfl))
              refine ⟨fun hw bb hbb K hK => ?_, fun hw => ?_⟩
              · clear hw
                simp only [puts, Act.put, List.setIfInBounds_toArray, List.set_cons_zero, List.set_cons_succ] at hbb
                subst hbb
                go_simp
                exact hK.out _ _ (hJ.pure (gb_refl _ _) rfl rfl)
              · unfold wantL at hw
                simp only [eg] at hw
                exact absurd hw (by decide)
            · intro l t w7 hJ hl hd
              have eg := hJ.val 3 _ rfl (hd 3 (by kernel_rfl))
              refine ⟨fun hw bb hbb K hK => ?_, fun hw => ?_⟩
              · clear hw
                have e7 := hJ.val 7 _ rfl (hd 7 (by kernel_rfl))
                have x0 := (HR.out.kept0 hJ.gb) 0 _ rfl
                have x1 := (HR.out.kept0 hJ.gb) 1 _ rfl
                have x2 := (HR.out.kept0 hJ.gb) 2 _ rfl
                have x3 := (HR.out.kept0 hJ.gb) 3 _ rfl
                simp only [puts, Act.put, List.setIfInBounds_toArray, List.set_cons_zero, List.set_cons_succ] at hbb
                rw [e7] at hbb
                subst hbb
                go_simp
                exact hK.out _ _ (hJ.pure (gb_refl _ _) rfl rfl)
              · unfold wantL at hw
                simp only [eg] at hw
                exact absurd hw (by decide)
            · intro l t w7 hJ hl hd
              have eg := hJ.val 3 _ rfl (hd 3 (by kernel_rfl))
              refine ⟨fun hw bb hbb K hK => ?_, fun hw => ?_⟩
              · clear hw
                have e6 := hJ.val 6 _ rfl (hd 6 (by kernel_rfl))
                have e8 := hJ.val 8 _ rfl (hd 8 (by kernel_rfl))
                simp only [puts, Act.put, List.setIfInBounds_toArray, List.set_cons_zero, List.set_cons_succ] at hbb
                rw [e6] at hbb
                rw [e8] at hbb
                subst hbb
                go_simp
                refine (sub_c p0 p1 b0 b1 _ (by unfold sm; omega) (by unfold sm; omega) (by unfold sm; omega) (by unfold sm; omega)).mono ?_
                rintro e w8 ⟨rfl, hg⟩
                exact hK.out _ _ (hJ.pure hg rfl rfl)
              · unfold wantL at hw
                simp only [eg] at hw
                exact absurd hw (by decide)
            · intro l t w7 hJ hl hd
              have eg := hJ.val 3 _ rfl (hd 3 (by kernel_rfl))
              refine ⟨fun hw bb hbb K hK => ?_, fun hw => ?_⟩
              · clear hw
                have e5 := hJ.val 5 _ rfl (hd 5 (by kernel_rfl))
                have e9 := hJ.val 9 _ rfl (hd 9 (by kernel_rfl))
                simp only [puts, Act.put, List.setIfInBounds_toArray, List.set_cons_zero, List.set_cons_succ] at hbb
                rw [e5] at hbb
                rw [e9] at hbb
                subst hbb
                go_simp
                refine (add_c b0 b1 b2 b3 (p0 - b0) (p1 - b1) _ (by unfold sm; omega) (by unfold sm; omega) (by unfold sm; omega) (by unfold sm; omega) (by unfold sm; omega) (by unfold sm; omega)).mono ?_
                rintro e w8 ⟨rfl, hg⟩
                exact hK.out _ _ (hJ.pure hg rfl rfl)
              · unfold wantL at hw
                simp only [eg] at hw
                exact absurd hw (by decide)
            · intro l t w7 hJ hl hd
              have eg := hJ.val 3 _ rfl (hd 3 (by kernel_rfl))
              refine ⟨fun hw bb hbb K hK => ?_, fun hw => ?_⟩
              · clear hw
                have e4 := hJ.val 4 _ rfl (hd 4 (by kernel_rfl))
                have e10 := hJ.val 10 _ rfl (hd 10 (by kernel_rfl))
                simp only [puts, Act.put, List.setIfInBounds_toArray, List.set_cons_zero, List.set_cons_succ] at hbb
                rw [e4] at hbb
                rw [e10] at hbb
                subst hbb
                go_simp
                refine (overlaps_c b0 b1 b2 b3 (b0 + (p0 - b0)) (b1 + (p1 - b1)) (b2 + (p0 - b0)) (b3 + (p1 - b1)) _).mono ?_
                rintro e w8 ⟨rfl, hg⟩
                rw [HO.out]
                exact hK.out _ _ (hJ.pure hg rfl rfl)
              · unfold wantL at hw
                simp only [eg] at hw
                exact absurd hw (by decide)
            · intro l t w7 hJ hl hd
              refine ⟨fun hw bb hbb K hK => ?_, fun hw => ?_⟩
              · clear hw
                have e3 := hJ.val 3 _ rfl (hd 3 (by kernel_rfl))
                have e11 := hJ.val 11 _ rfl (hd 11 (by kernel_rfl))
                simp only [puts, Act.put, List.setIfInBounds_toArray, List.set_cons_zero, List.set_cons_succ] at hbb
                rw [e3] at hbb
                rw [e11] at hbb
                subst hbb
                go_simp
                exact hK.out _ _ (hJ.pure (gb_refl _ _) rfl rfl)
              · exact Bool.noConfusion (show true = false from hw)
            · intro l t w7 hJ hl hd
              refine ⟨fun hw bb hbb K hK => ?_, fun hw => ?_⟩
              · clear hw
                have e12 := hJ.val 12 _ rfl (hd 12 (by kernel_rfl))
                simp only [puts, Act.put, List.setIfInBounds_toArray, List.set_cons_zero, List.set_cons_succ] at hbb
                rw [e12] at hbb
                subst hbb
                go_simp
                exact hK.out _ _ (hJ.pure (gb_refl _ _) rfl rfl)
              · exact Bool.noConfusion (show true = false from hw)
            · intro l t w7 hJ hl hd
              have eg := hJ.val 13 _ rfl (hd 13 (by kernel_rfl))
              refine ⟨fun hw bb hbb K hK => ?_, fun hw => ?_⟩
              · clear hw
                simp only [puts, Act.put, List.setIfInBounds_toArray, List.set_cons_zero, List.set_cons_succ] at hbb
                subst hbb
                go_simp
                exact hK.out _ _ (hJ.pure (gb_refl _ _) rfl rfl)
              · unfold wantL at hw
                simp only [eg] at hw
                exact absurd hw (by decide)
            · intro l t w7 hJ hl hd
              have eg := hJ.val 13 _ rfl (hd 13 (by kernel_rfl))
              refine ⟨fun hw bb hbb K hK => ?_, fun hw => ?_⟩
              · clear hw
                have e14 := hJ.val 14 _ rfl (hd 14 (by kernel_rfl))
                have x0 := (HP.out.kept0 hJ.gb) 0 _ rfl
                have x1 := (HP.out.kept0 hJ.gb) 1 _ rfl
                simp only [puts, Act.put, List.setIfInBounds_toArray, List.set_cons_zero, List.set_cons_succ] at hbb
                rw [e14] at hbb
                subst hbb
                go_simp
                exact hK.out _ _ (hJ.pure (gb_refl _ _) rfl rfl)
              · unfold wantL at hw
                simp only [eg] at hw
                exact absurd hw (by decide)
            · intro l t w7 hJ hl hd
              have eg := hJ.val 13 _ rfl (hd 13 (by kernel_rfl))
              refine ⟨fun hw bb hbb K hK => ?_, fun hw => ?_⟩
              · clear hw
                simp only [puts, Act.put, List.setIfInBounds_toArray, List.set_cons_zero, List.set_cons_succ] at hbb
                subst hbb
                go_simp
                exact hK.out _ _ (hJ.pure (gb_refl _ _) rfl rfl)
              · unfold wantL at hw
                simp only [eg] at hw
                exact absurd hw (by decide)
            · intro l t w7 hJ hl hd
              have eg := hJ.val 13 _ rfl (hd 13 (by kernel_rfl))
              refine ⟨fun hw bb hbb K hK => ?_, fun hw => ?_⟩
              · clear hw
                have e16 := hJ.val 16 _ rfl (hd 16 (by kernel_rfl))
                simp only [puts, Act.put, List.setIfInBounds_toArray, List.set_cons_zero, List.set_cons_succ] at hbb
                rw [e16] at hbb
                subst hbb
                go_simp
                exact hK.out _ _ (hJ.pure (gb_refl _ _) rfl rfl)
              · unfold wantL at hw
                simp only [eg] at hw
                exact absurd hw (by decide)
            · intro l t w7 hJ hl hd
              have eg := hJ.val 13 _ rfl (hd 13 (by kernel_rfl))
              refine ⟨fun hw bb hbb K hK => ?_, fun hw => ?_⟩
              · clear hw
                have e17 := hJ.val 17 _ rfl (hd 17 (by kernel_rfl))
                have x0 := (HR.out.kept0 hJ.gb) 0 _ rfl
                have x1 := (HR.out.kept0 hJ.gb) 1 _ rfl
                have x2 := (HR.out.kept0 hJ.gb) 2 _ rfl
                have x3 := (HR.out.kept0 hJ.gb) 3 _ rfl
                simp only [puts, Act.put, List.setIfInBounds_toArray, List.set_cons_zero, List.set_cons_succ] at hbb
                rw [e17] at hbb
                subst hbb
                go_simp
                exact hK.out _ _ (hJ.pure (gb_refl _ _) rfl rfl)
              · unfold wantL at hw
                simp only [eg] at hw
                exact absurd hw (by decide)
            · intro l t w7 hJ hl hd
              have eg := hJ.val 13 _ rfl (hd 13 (by kernel_rfl))
              refine ⟨fun hw bb hbb K hK => ?_, fun hw => ?_⟩
              · clear hw
                have e15 := hJ.val 15 _ rfl (hd 15 (by kernel_rfl))
                have e18 := hJ.val 18 _ rfl (hd 18 (by kernel_rfl))
                simp only [puts, Act.put, List.setIfInBounds_toArray, List.set_cons_zero, List.set_cons_succ] at hbb
                rw [e15] at hbb
                rw [e18] at hbb
                subst hbb
                go_simp
                exact hK.out _ _ (hJ.pure (gb_refl _ _) rfl rfl)
              · unfold wantL at hw
                simp only [eg] at hw
                exact absurd hw (by decide)
            · intro l t w7 hJ hl hd
              have eg := hJ.val 13 _ rfl (hd 13 (by kernel_rfl))
              refine ⟨fun hw bb hbb K hK => ?_, fun hw => ?_⟩
              · clear hw
                have e19 := hJ.val 19 _ rfl (hd 19 (by kernel_rfl))
                simp only [puts, Act.put, List.setIfInBounds_toArray, List.set_cons_zero, List.set_cons_succ] at hbb
                rw [e19] at hbb
                subst hbb
                go_simp
                exact hK.out _ _ (hJ.pure (gb_refl _ _) rfl rfl)
              · unfold wantL at hw
                simp only [eg] at hw
                exact absurd hw (by decide)
            · intro l t w7 hJ hl hd
              have eg := hJ.val 20 _ rfl (hd 20 (by kernel_rfl))
              refine ⟨fun hw bb hbb K hK => ?_, fun hw => ?_⟩
              · clear hw
                simp only [puts, Act.put, List.setIfInBounds_toArray, List.set_cons_zero, List.set_cons_succ] at hbb
                subst hbb
                go_simp
                exact hK.out _ _ (hJ.pure (gb_refl _ _) rfl rfl)
              · unfold wantL at hw
                simp only [eg] at hw
                exact absurd hw (by decide)
            · intro l t w7 hJ hl hd
              have eg := hJ.val 20 _ rfl (hd 20 (by kernel_rfl))
              refine ⟨fun hw bb hbb K hK => ?_, fun hw => ?_⟩
              · clear hw
                have e21 := hJ.val 21 _ rfl (hd 21 (by kernel_rfl))
                have x0 := (HP.out.kept0 hJ.gb) 0 _ rfl
                have x1 := (HP.out.kept0 hJ.gb) 1 _ rfl
                simp only [puts, Act.put, List.setIfInBounds_toArray, List.set_cons_zero, List.set_cons_succ] at hbb
                rw [e21] at hbb
                subst hbb
                go_simp
                exact hK.out _ _ (hJ.pure (gb_refl _ _) rfl rfl)
              · unfold wantL at hw
                simp only [eg] at hw
                exact absurd hw (by decide)
            · intro l t w7 hJ hl hd
              have eg := hJ.val 20 _ rfl (hd 20 (by kernel_rfl))
              refine ⟨fun hw bb hbb K hK => ?_, fun hw => ?_⟩
              · clear hw
                simp only [puts, Act.put, List.setIfInBounds_toArray, List.set_cons_zero, List.set_cons_succ] at hbb
                subst hbb
                go_simp
                exact hK.out _ _ (hJ.pure (gb_refl _ _) rfl rfl)
              · unfold wantL at hw
                simp only [eg] at hw
                exact absurd hw (by decide)
            · intro l t w7 hJ hl hd
              have eg := hJ.val 20 _ rfl (hd 20 (by kernel_rfl))
              refine ⟨fun hw bb hbb K hK => ?_, fun hw => ?_⟩
              · clear hw
                have e23 := hJ.val 23 _ rfl (hd 23 (by kernel_rfl))
                simp only [puts, Act.put, List.setIfInBounds_toArray, List.set_cons_zero, List.set_cons_succ] at hbb
                rw [e23] at hbb
                subst hbb
                go_simp
                exact hK.out _ _ (hJ.pure (gb_refl _ _) rfl rfl)
              · unfold wantL at hw
                simp only [eg] at hw
                exact absurd hw (by decide)
            · intro l t w7 hJ hl hd
              have eg := hJ.val 20 _ rfl (hd 20 (by kernel_rfl))
              refine ⟨fun hw bb hbb K hK => ?_, fun hw => ?_⟩
              · clear hw
                have e24 := hJ.val 24 _ rfl (hd 24 (by kernel_rfl))
                have x0 := (HR.out.kept0 hJ.gb) 0 _ rfl
                have x1 := (HR.out.kept0 hJ.gb) 1 _ rfl
                have x2 := (HR.out.kept0 hJ.gb) 2 _ rfl
                have x3 := (HR.out.kept0 hJ.gb) 3 _ rfl
                simp only [puts, Act.put, List.setIfInBounds_toArray, List.set_cons_zero, List.set_cons_succ] at hbb
                rw [e24] at hbb
                subst hbb
                go_simp
                exact hK.out _ _ (hJ.pure (gb_refl _ _) rfl rfl)
              · unfold wantL at hw
                simp only [eg] at hw
                exact absurd hw (by decide)
            · intro l t w7 hJ hl hd
              have eg := hJ.val 20 _ rfl (hd 20 (by kernel_rfl))
              refine ⟨fun hw bb hbb K hK => ?_, fun hw => ?_⟩
              · clear hw
                have e22 := hJ.val 22 _ rfl (hd 22 (by kernel_rfl))
                have e25 := hJ.val 25 _ rfl (hd 25 (by kernel_rfl))
                simp only [puts, Act.put, List.setIfInBounds_toArray, List.set_cons_zero, List.set_cons_succ] at hbb
                rw [e22] at hbb
                rw [e25] at hbb
                subst hbb
                go_simp
                exact hK.out _ _ (hJ.pure (gb_refl _ _) rfl rfl)
              · unfold wantL at hw
                simp only [eg] at hw
                exact absurd hw (by decide)
            · intro l t w7 hJ hl hd
              have eg := hJ.val 20 _ rfl (hd 20 (by kernel_rfl))
              refine ⟨fun hw bb hbb K hK => ?_, fun hw => ?_⟩
              · clear hw
                have e26 := hJ.val 26 _ rfl (hd 26 (by kernel_rfl))
                simp only [puts, Act.put, List.setIfInBounds_toArray, List.set_cons_zero, List.set_cons_succ] at hbb
                rw [e26] at hbb
                subst hbb
                go_simp
                exact hK.out _ _ (hJ.pure (gb_refl _ _) rfl rfl)
              · unfold wantL at hw
                simp only [eg] at hw
                exact absurd hw (by decide)
            · intro l t w7 hJ hl hd
              have eg := hJ.val 27 _ rfl (hd 27 (by kernel_rfl))
              refine ⟨fun hw bb hbb K hK => ?_, fun hw => ?_⟩
              · clear hw
                simp only [puts, Act.put, List.setIfInBounds_toArray, List.set_cons_zero, List.set_cons_succ] at hbb
                subst hbb
                go_simp
                exact hK.out _ _ (hJ.pure (gb_refl _ _) rfl rfl)
              · unfold wantL at hw
                simp only [eg] at hw
                exact absurd hw (by decide)
            · intro l t w7 hJ hl hd
              have eg := hJ.val 27 _ rfl (hd 27 (by kernel_rfl))
              refine ⟨fun hw bb hbb K hK => ?_, fun hw => ?_⟩
              · clear hw
                have e28 := hJ.val 28 _ rfl (hd 28 (by kernel_rfl))
                have x0 := (HP.out.kept0 hJ.gb) 0 _ rfl
                have x1 := (HP.out.kept0 hJ.gb) 1 _ rfl
                simp only [puts, Act.put, List.setIfInBounds_toArray, List.set_cons_zero, List.set_cons_succ] at hbb
                rw [e28] at hbb
                subst hbb
                go_simp
                exact hK.out _ _ (hJ.pure (gb_refl _ _) rfl rfl)
              · unfold wantL at hw
                simp only [eg] at hw
                exact absurd hw (by decide)
            · intro l t w7 hJ hl hd
              have eg := hJ.val 27 _ rfl (hd 27 (by kernel_rfl))
              refine ⟨fun hw bb hbb K hK => ?_, fun hw => ?_⟩
              · clear hw
                simp only [puts, Act.put, List.setIfInBounds_toArray, List.set_cons_zero, List.set_cons_succ] at hbb
                subst hbb
                go_simp
                exact hK.out _ _ (hJ.pure (gb_refl _ _) rfl rfl)
              · unfold wantL at hw
                simp only [eg] at hw
                exact absurd hw (by decide)
            · intro l t w7 hJ hl hd
              have eg := hJ.val 27 _ rfl (hd 27 (by kernel_rfl))
              refine ⟨fun hw bb hbb K hK => ?_, fun hw => ?_⟩
              · clear hw
                have e30 := hJ.val 30 _ rfl (hd 30 (by kernel_rfl))
                simp only [puts, Act.put, List.setIfInBounds_toArray, List.set_cons_zero, List.set_cons_succ] at hbb
                rw [e30] at hbb
                subst hbb
                go_simp
                exact hK.out _ _ (hJ.pure (gb_refl _ _) rfl rfl)
              · unfold wantL at hw
                simp only [eg] at hw
                exact absurd hw (by decide)
            · intro l t w7 hJ hl hd
              have eg := hJ.val 27 _ rfl (hd 27 (by kernel_rfl))
              refine ⟨fun hw bb hbb K hK => ?_, fun hw => ?_⟩
              · clear hw
                have e31 := hJ.val 31 _ rfl (hd 31 (by kernel_rfl))
                have x0 := (HR.out.kept0 hJ.gb) 0 _ rfl
                have x1 := (HR.out.kept0 hJ.gb) 1 _ rfl
                have x2 := (HR.out.kept0 hJ.gb) 2 _ rfl
                have x3 := (HR.out.kept0 hJ.gb) 3 _ rfl
                simp only [puts, Act.put, List.setIfInBounds_toArray, List.set_cons_zero, List.set_cons_succ] at hbb
                rw [e31] at hbb
                subst hbb
                go_simp
                exact hK.out _ _ (hJ.pure (gb_refl _ _) rfl rfl)
              · unfold wantL at hw
                simp only [eg] at hw
                exact absurd hw (by decide)
            · intro l t w7 hJ hl hd
              have eg := hJ.val 27 _ rfl (hd 27 (by kernel_rfl))
              refine ⟨fun hw bb hbb K hK => ?_, fun hw => ?_⟩
              · clear hw
                have e29 := hJ.val 29 _ rfl (hd 29 (by kernel_rfl))
                have e32 := hJ.val 32 _ rfl (hd 32 (by kernel_rfl))
                simp only [puts, Act.put, List.setIfInBounds_toArray, List.set_cons_zero, List.set_cons_succ] at hbb
                rw [e29] at hbb
                rw [e32] at hbb
                subst hbb
                go_simp
                exact hK.out _ _ (hJ.pure (gb_refl _ _) rfl rfl)
              · unfold wantL at hw
                simp only [eg] at hw
                exact absurd hw (by decide)
            · intro l t w7 hJ hl hd
              have eg := hJ.val 20 _ rfl (hd 20 (by kernel_rfl))
              refine ⟨fun hw bb hbb K hK => ?_, fun hw => ?_⟩
              · clear hw
                have e27 := hJ.val 27 _ rfl (hd 27 (by kernel_rfl))
                have e33 := hJ.val 33 _ rfl (hd 33 (by kernel_rfl))
                simp only [puts, Act.put, List.setIfInBounds_toArray, List.set_cons_zero, List.set_cons_succ] at hbb
                rw [e27] at hbb
                rw [e33] at hbb
                subst hbb
                go_simp
                exact hK.out _ _ (hJ.pure (gb_refl _ _) rfl rfl)
              · unfold wantL at hw
                simp only [eg] at hw
                exact absurd hw (by decide)
            · intro l t w7 hJ hl hd
              have eg := hJ.val 13 _ rfl (hd 13 (by kernel_rfl))
              refine ⟨fun hw bb hbb K hK => ?_, fun hw => ?_⟩
              · clear hw
                have e20 := hJ.val 20 _ rfl (hd 20 (by kernel_rfl))
                have e34 := hJ.val 34 _ rfl (hd 34 (by kernel_rfl))
                simp only [puts, Act.put, List.setIfInBounds_toArray, List.set_cons_zero, List.set_cons_succ] at hbb
                rw [e20] at hbb
                rw [e34] at hbb
                subst hbb
                go_simp
                exact hK.out _ _ (hJ.pure (gb_refl _ _) rfl rfl)
              · unfold wantL at hw
                simp only [eg] at hw
                exact absurd hw (by decide)
            · intro l t w7 hJ hl hd
              refine ⟨fun hw bb hbb K hK => ?_, fun hw => ?_⟩
              · clear hw
                have e13 := hJ.val 13 _ rfl (hd 13 (by kernel_rfl))
                have e35 := hJ.val 35 _ rfl (hd 35 (by kernel_rfl))
                simp only [puts, Act.put, List.setIfInBounds_toArray, List.set_cons_zero, List.set_cons_succ] at hbb
                rw [e13] at hbb
                rw [e35] at hbb
                subst hbb
                go_simp
                exact hK.out _ _ (hJ.pure (gb_refl _ _) rfl rfl)
              · exact Bool.noConfusion (show true = false from hw)
            · intro l t w7 hJ hl hd
              refine ⟨fun hw bb hbb K hK => ?_, fun hw => ?_⟩
              · clear hw
                have e36 := hJ.val 36 _ rfl (hd 36 (by kernel_rfl))
                simp only [puts, Act.put, List.setIfInBounds_toArray, List.set_cons_zero, List.set_cons_succ] at hbb
                rw [e36] at hbb
                subst hbb
                go_simp
                exact hK.out _ _ (hJ.pure (gb_refl _ _) rfl rfl)
              · exact Bool.noConfusion (show true = false from hw)
          intro l t w7 hJ hl
          have e37 := hJ.val 37 _ rfl (hl 37 (by decide))
          have HB7 := hid hJ.gb
          clear hJ hl
          simp only [puts, Act.put, List.setIfInBounds_toArray, List.set_cons_zero, List.set_cons_succ]
          rw [e37]
          clear e37
          go_wp2_with fail
          go_ret
          exact ⟨congrArg (fun b => Ending.returned (.bool b)) (show gback _ _ _ _ _ = false from (by unfold gback; rw [HO.out, Hc.out.2.1]; simp [Hc.out.1, Hc.out.2.2])).symm, gb_trans HG.out HB7.out⟩
end Go.Proofs.YtgjpohmjkhgpfaaGreat
