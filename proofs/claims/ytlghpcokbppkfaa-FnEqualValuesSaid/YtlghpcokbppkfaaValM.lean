import Derived.Test.YtlghpcokbppkfaaValL
set_option linter.unusedVariables false
/- value.ListEqualsUsing. -/
namespace Go.Proofs.Ytlghpcokbppkfaa
open Go.RowKit
set_option linter.unusedSimpArgs false

set_option maxHeartbeats 8000000 in
theorem listEq_dvLp (l1 l2 : List JV) (hE : ∀ x ∈ l1, ∀ y ∈ l2, PCall Try.prog 130 [dvA, dvV x, dvV y] (.val (.bool (eqJ x y)))) : PCall Try.prog 140 [dvA, dvLp l1, dvL l2] (.val (.bool (eqJs l1 l2))) := by
  refine PCall.ex fun w F vs hvs => ?_
  have hlen : l2.length * 16 ≤ 140737488351232 := by
    unfold Reps at hvs; obtain ⟨_, _, _, _, hvs⟩ := hvs
    unfold Reps at hvs; obtain ⟨_, _, _, _, hvs⟩ := hvs
    unfold Reps at hvs; obtain ⟨_, _, _, hv, _⟩ := hvs
    unfold dvL Rep at hv; obtain ⟨_, _, hv⟩ := hv
    exact dvLs_len hv
  clear hvs vs F w
  refine pcall_of_run Try.func140 rfl Try.ntmps140 rfl (fun X => ?_)
  by_cases hl : l1.length = l2.length
  · have hq0 : decide (((l1.length : Nat) : Int) ≠ ((l2.length : Nat) : Int)) = false := by simp; omega
    by_cases hn : l1 = []
    · subst hn
      have hn2 : l2 = [] := List.eq_nil_of_length_eq_zero hl.symm
      subst hn2
      repeat' (first
    | refine run_seq ?_
    | (refine k_pick rfl ?_; first | refine k_assignD rfl rfl ?_ | refine k_moveD rfl rfl ?_ | refine k_bin2B rfl rfl rfl rfl ?_ | refine k_invD rfl rfl rfl (by kernel_rfl) rfl (by first | exact lenL_p _ | exact rangeNil_p | exact emptyNext_p) ?_ | refine k_invS rfl rfl (by kernel_rfl) rfl (by first | exact lenL_p _ | exact rangeNil_p | exact emptyNext_p) ?_ | refine k_nilI rfl rfl ?_ | refine k_deferA rfl free_idle ?_)
    | refine run_opsEnd ?_
    | refine run_region ?_
    | refine run_condF rfl (by first | rfl | assumption) ?_
    | refine run_block ?_
    | refine run_skip ?_
    | fail)
      refine run_loopS (ι := Unit) (fun _ => [(7, .dat dvE), (8, .dat dvE)]) (fun _ => []) (fun _ => 0) () id ?_ (fun _ => ?_)
      · (refine ⟨?_, ?_, by rfl⟩ <;> repeat' (first | exact trivial | exact ALe.ptr rfl | exact ALe.own rfl | exact ALe.elt rfl | exact BLe.boxD _ _ | exact BLe.row rfl | exact BLe.res | exact ALe.dat (PLe.refl _) | exact CLe.nil | refine And.intro ?_ ?_ | refine ALe.iface ?_ | refine ALe.clo ?_ | refine CLe.cons ?_ ?_ | refine BLe.box ?_ | refine BLe.row ?_ | exact ALe.any _ | refine ALe.dat (PLe.of_eq ?_)))
      repeat' (first
    | refine run_seq ?_
    | (refine k_pick rfl ?_; first | refine k_assignD rfl rfl ?_ | refine k_moveD rfl rfl ?_ | refine k_pickF rfl rfl (by first | rfl | assumption) rfl ?_ | refine k_invS rfl rfl (by kernel_rfl) rfl (by first | exact emptyNext_p) ?_)
    | refine run_opsEnd ?_
    | refine run_region ?_
    | refine run_condF rfl (by first | rfl | assumption) ?_
    | refine k_guardNT rfl rfl (by first | rfl | assumption) rfl ?_
    | refine run_exit rfl ?_
    | refine run_retOk (resOk_tmp rfl rfl ?_)
    | fail)
      all_goals exact PLe.of_eq (by unfold eqJs; rfl)
    · have hn2 : l2 ≠ [] := fun e => hn (List.eq_nil_of_length_eq_zero (by rw [hl, e]; rfl))
      repeat' (first
    | refine run_seq ?_
    | (refine k_pick rfl ?_; first | refine k_assignD rfl rfl ?_ | refine k_moveD rfl rfl ?_ | refine k_bin2B rfl rfl rfl rfl ?_ | refine k_invAD1 (thk [] 200) rfl rfl rfl (by kernel_rfl) (rangeCons_c _ hn) rfl trivial rfl (freshB_ok rfl) rfl ?_ | refine k_invAS1 (thk [] 350) rfl rfl (by kernel_rfl) (rangeCons_c _ hn2) rfl trivial rfl (freshB_ok rfl) rfl ?_ | refine k_invD rfl rfl rfl (by kernel_rfl) rfl (by first | exact lenL_p _) ?_ | refine k_invS rfl rfl (by kernel_rfl) rfl (by first | exact lenL_p _) ?_ | refine k_nilI rfl rfl ?_ | refine k_assignI rfl rfl ?_ | refine k_moveI rfl rfl ?_ | refine k_deferA rfl free_idle ?_)
    | refine run_opsEnd ?_
    | refine run_region ?_
    | refine run_condF rfl (by first | rfl | assumption) ?_
    | refine run_block ?_
    | refine run_skip ?_
    | fail)
      refine run_loopS (ι := { k : Nat // k ≤ l1.length ∧ ∀ i x y, i < k → l1[i]? = some x → l2[i]? = some y → eqJ x y = true })
        (fun k => [(0, .dat dvA), (7, .iface 309 (.ptr 200 0)), (8, .iface 309 (.ptr 350 0))])
        (fun k => [(200, .box 311 [.dat (dvLs l1), .ptr 201 0, .dat (.val (.int .i64 ((k.1 : Nat) - 1 : Int)))]), (201, .box 233 [.any]),
          (350, .box 311 [.dat (dvLs l2), .ptr 351 0, .dat (.val (.int .i64 ((k.1 : Nat) - 1 : Int)))]), (351, .box 233 [.any])])
        (fun k => l1.length - k.1) ⟨0, Nat.zero_le _, fun i _ _ h => absurd h (Nat.not_lt_zero i)⟩ id ?_ ?_
      · (refine ⟨?_, ?_, by rfl⟩ <;> repeat' (first | exact trivial | exact ALe.ptr rfl | exact ALe.own rfl | exact ALe.elt rfl | exact BLe.boxD _ _ | exact BLe.row rfl | exact BLe.res | exact ALe.dat (PLe.refl _) | exact CLe.nil | refine And.intro ?_ ?_ | refine ALe.iface ?_ | refine ALe.clo ?_ | refine CLe.cons ?_ ?_ | refine BLe.box ?_ | refine BLe.row ?_ | exact ALe.any _ | refine ALe.dat (PLe.of_eq ?_)))
      rintro ⟨k, hk, hall⟩
      by_cases hlt : k < l1.length
      · have hq1 : decide ((k : Int) < (l1.length : Int)) = true := by simpa using hlt
        have hq2 : decide ((k : Int) < (l2.length : Int)) = true := by rw [hl] at hlt; simpa using hlt
        obtain ⟨x, hx⟩ : ∃ x, l1[k]? = some x := ⟨_, List.getElem?_eq_getElem hlt⟩
        obtain ⟨y, hy⟩ : ∃ y, l2[k]? = some y := ⟨_, List.getElem?_eq_getElem (hl ▸ hlt)⟩
        have hC := hE x (List.mem_of_getElem? hx) y (List.mem_of_getElem? hy)
        cases hr : eqJ x y with
        | true =>
          rw [hr] at hC
          repeat' (first
    | refine run_seq ?_
    | (refine k_pick rfl ?_; first | refine k_assignD rfl rfl ?_ | refine k_moveD rfl rfl ?_ | refine k_pickT rfl rfl (by first | rfl | assumption) rfl ?_ | refine k_not rfl rfl ?_ | refine k_invAS1 (thk [(1000, _), (1001, _)] 200) rfl rfl (by kernel_rfl) (next_c l1 k (by omega)) rfl ⟨rfl, ⟨rfl, trivial⟩⟩ rfl (freshB_ok rfl) rfl ?_ | refine k_invAS1 (thk [(1000, _), (1001, _)] 200) rfl rfl (by kernel_rfl) (item_c l1 k x hx) rfl ⟨rfl, ⟨rfl, trivial⟩⟩ rfl (freshB_ok rfl) rfl ?_ | refine k_invAS1 (thk [(1000, _), (1001, _)] 200) rfl rfl (by kernel_rfl) (item_c l2 k y hy) rfl ⟨rfl, ⟨rfl, trivial⟩⟩ rfl (freshB_ok rfl) rfl ?_ | refine k_assignI rfl rfl ?_ | refine k_moveI rfl rfl ?_ | refine k_moveT rfl rfl ?_ | refine k_extractI rfl rfl rfl ?_ | refine k_extractD rfl rfl rfl ?_ | refine k_callZ gV rfl (by kernel_rfl) rfl (by first | exact hC) Flat.val ?_)
    | refine run_opsEnd ?_
    | refine run_region ?_
    | refine run_condT rfl (by first | rfl | assumption) ?_
    | refine run_condF rfl (by first | rfl | assumption) ?_
    | (refine k_guardY rfl rfl (by first | rfl | assumption) ?_; first | refine k_invAS1 (thk [(1000, _), (1001, _)] 200) rfl rfl (by kernel_rfl) (next_c l2 k (by omega)) rfl ⟨rfl, ⟨rfl, trivial⟩⟩ rfl (freshB_ok rfl) rfl ?_ | refine k_moveI rfl rfl ?_)
    | refine run_block ?_
    | refine run_blkEnd ?_
    | refine run_skip ?_
    | fail)
          refine run_again ?_
          refine ⟨⟨k + 1, by omega, ?_⟩, id, by simp only; omega, ?_⟩
          · intro i x' y' hi hx' hy'
            by_cases e : i = k
            · subst e
              rw [hx] at hx'; rw [hy] at hy'
              cases hx'; cases hy'
              exact hr
            · exact hall i x' y' (by omega) hx' hy'
          (refine ⟨?_, ?_, by rfl⟩ <;> repeat' (first | exact trivial | exact ALe.ptr rfl | exact ALe.own rfl | exact ALe.elt rfl | exact BLe.boxD _ _ | exact BLe.row rfl | exact BLe.res | exact ALe.dat (PLe.refl _) | exact CLe.nil | refine And.intro ?_ ?_ | refine ALe.iface ?_ | refine ALe.clo ?_ | refine CLe.cons ?_ ?_ | refine BLe.box ?_ | refine BLe.row ?_ | exact ALe.any _ | refine ALe.dat (PLe.of_eq ?_)))
          all_goals (rw [show (((k + 1 : Nat) : Int) - 1) = k by omega])
        | false =>
          rw [hr] at hC
          rw [eqJs_false hx hy hr]
          repeat' (first
    | refine run_seq ?_
    | (refine k_pick rfl ?_; first | refine k_assignD rfl rfl ?_ | refine k_moveD rfl rfl ?_ | refine k_pickT rfl rfl (by first | rfl | assumption) rfl ?_ | refine k_not rfl rfl ?_ | refine k_invAS1 (thk [(1000, _), (1001, _)] 200) rfl rfl (by kernel_rfl) (next_c l1 k (by omega)) rfl ⟨rfl, ⟨rfl, trivial⟩⟩ rfl (freshB_ok rfl) rfl ?_ | refine k_invAS1 (thk [(1000, _), (1001, _)] 200) rfl rfl (by kernel_rfl) (item_c l1 k x hx) rfl ⟨rfl, ⟨rfl, trivial⟩⟩ rfl (freshB_ok rfl) rfl ?_ | refine k_invAS1 (thk [(1000, _), (1001, _)] 200) rfl rfl (by kernel_rfl) (item_c l2 k y hy) rfl ⟨rfl, ⟨rfl, trivial⟩⟩ rfl (freshB_ok rfl) rfl ?_ | refine k_assignI rfl rfl ?_ | refine k_moveI rfl rfl ?_ | refine k_moveT rfl rfl ?_ | refine k_extractI rfl rfl rfl ?_ | refine k_extractD rfl rfl rfl ?_ | refine k_callZ gV rfl (by kernel_rfl) rfl (by first | exact hC) Flat.val ?_)
    | refine run_opsEnd ?_
    | refine run_region ?_
    | refine run_condT rfl (by first | rfl | assumption) ?_
    | (refine k_guardY rfl rfl (by first | rfl | assumption) ?_; first | refine k_invAS1 (thk [(1000, _), (1001, _)] 200) rfl rfl (by kernel_rfl) (next_c l2 k (by omega)) rfl ⟨rfl, ⟨rfl, trivial⟩⟩ rfl (freshB_ok rfl) rfl ?_ | refine k_moveI rfl rfl ?_)
    | refine run_block ?_
    | refine run_skip ?_
    | refine run_retOk (resOk_tmp rfl rfl ?_)
    | fail)
          all_goals exact PLe.refl _
      · have hq1 : decide ((k : Int) < (l1.length : Int)) = false := by simpa using hlt
        rw [eqJs_true hl (fun i x y hx hy => hall i x y (by have := (List.getElem?_eq_some_iff.1 hx).1; omega) hx hy)]
        repeat' (first
    | refine run_seq ?_
    | (refine k_pick rfl ?_; first | refine k_assignD rfl rfl ?_ | refine k_moveD rfl rfl ?_ | refine k_pickF rfl rfl (by first | rfl | assumption) rfl ?_ | refine k_invAS1 (thk [(1000, _), (1001, _)] 200) rfl rfl (by kernel_rfl) (next_c l1 k (by omega)) rfl ⟨rfl, ⟨rfl, trivial⟩⟩ rfl (freshB_ok rfl) rfl ?_ | refine k_moveI rfl rfl ?_)
    | refine run_opsEnd ?_
    | refine run_region ?_
    | refine run_condF rfl (by first | rfl | assumption) ?_
    | refine k_guardNT rfl rfl (by first | rfl | assumption) rfl ?_
    | refine run_exit rfl ?_
    | refine run_retOk (resOk_tmp rfl rfl ?_)
    | fail)
        all_goals exact PLe.refl _
  · have hq0 : decide (((l1.length : Nat) : Int) ≠ ((l2.length : Nat) : Int)) = true := by simp; omega
    have e : eqJs l1 l2 = false := by
      cases h : eqJs l1 l2 with
      | false => rfl
      | true => exact absurd (eqJs_len h) hl
    rw [e]
    repeat' (first
    | refine run_seq ?_
    | (refine k_pick rfl ?_; first | refine k_assignD rfl rfl ?_ | refine k_moveD rfl rfl ?_ | refine k_bin2B rfl rfl rfl rfl ?_ | refine k_invD rfl rfl rfl (by kernel_rfl) rfl (by first | exact lenL_p _) ?_ | refine k_invS rfl rfl (by kernel_rfl) rfl (by first | exact lenL_p _) ?_)
    | refine run_opsEnd ?_
    | refine run_region ?_
    | refine run_condT rfl (by first | rfl | assumption) ?_
    | refine run_retOk (resOk_tmp rfl rfl ?_)
    | fail)
    all_goals exact PLe.refl _
/-- (listUnstructured).EqualsUsing. -/
theorem lstEq_p (l1 l2 : List JV) (hE : ∀ x ∈ l1, ∀ y ∈ l2, PCall Try.prog 130 [dvA, dvV x, dvV y] (.val (.bool (eqJ x y)))) : PCall Try.prog 202 [dvLs l1, dvA, dvL l2] (.val (.bool (eqJs l1 l2))) := by
  have hC := listEq_dvLp l1 l2 hE
  refine pcall_of_run Try.func202 rfl Try.ntmps202 rfl (fun X => ?_)
  repeat' (first
    | refine run_seq ?_
    | (refine k_pick rfl ?_; first | refine k_assignD rfl rfl ?_ | refine k_moveD rfl rfl ?_ | refine k_boxW rfl rfl rfl (by first | rfl | (simp only [cellsD]; rfl)) ?_ | refine k_ifaceP rfl rfl (by kernel_rfl) ?_ | refine k_callZ gV rfl (by kernel_rfl) rfl (by first | exact hC) Flat.val ?_)
    | refine run_opsEnd ?_
    | refine run_region ?_
    | refine run_retOk (resOk_tmp rfl rfl ?_)
    | fail)
  all_goals exact PLe.refl _
end Go.Proofs.Ytlghpcokbppkfaa
