import Derived.Test.YtlghpcokbppkfaaValN
set_option linter.unusedVariables false
/- value.Equals. -/
namespace Go.Proofs.Ytlghpcokbppkfaa
open Go.RowKit
set_option linter.unusedSimpArgs false

theorem lkJ_mem : ∀ {m : List (ByteArray × JV)} {k : ByteArray} {j : JV}, lkJ m k = some j → (k, j) ∈ m
  | [], _, _, h => by simp [lkJ] at h
  | x :: r, k, j, h => by
    unfold lkJ at h
    split at h
    · rename_i e; cases h; subst e; simp
    · exact List.mem_cons_of_mem _ (lkJ_mem h)
set_option maxHeartbeats 4000000 in
theorem mapEq_p (m q : List (ByteArray × JV)) (hE : ∀ y ∈ q, ∀ x, lkJ m y.1 = some x → PCall Try.prog 130 [dvA, dvV x, dvV y.2] (.val (.bool (eqJ x y.2)))) :
    PCall Try.prog 209 [dvMm m, dvA, dvM q] (.val (.bool (Nat.beq m.length q.length && eqJm m q))) := by
  have hC := eqIter_c m q hE
  rw [eqJm_all]
  refine pcall_of_run Try.func209 rfl Try.ntmps209 rfl (fun X => ?_)
  by_cases hl : m.length = q.length
  · have hq0 : decide (((m.length : Nat) : Int) ≠ ((q.length : Nat) : Int)) = false := by simp; omega
    have e1 : Nat.beq m.length q.length = true := by rw [hl]; simp
    rw [e1, Bool.true_and]
    by_cases hn : q = []
    · subst hn
      have hn2 : m = [] := List.eq_nil_of_length_eq_zero hl
      subst hn2
      have hq1 : decide (((([] : List (ByteArray × JV)).length : Nat) : Int) = 0) = true := rfl
      repeat' (first
    | refine run_seq ?_
    | (refine k_pick rfl ?_; first | refine k_assignD rfl rfl ?_ | refine k_moveD rfl rfl ?_ | refine k_loadW rfl rfl rfl (by first | rfl | (simp only [cellsD]; rfl)) ?_ | refine k_bin2B rfl rfl rfl rfl ?_ | refine k_boxW rfl rfl rfl (by first | rfl | (simp only [cellsD]; rfl)) ?_ | refine k_call rfl (by kernel_rfl) rfl (by first | exact lenM_p _) ?_ | refine k_invS rfl rfl (by kernel_rfl) rfl (by first | exact lenM_p _) ?_)
    | refine run_opsEnd ?_
    | refine run_region ?_
    | refine run_condT rfl (by first | rfl | assumption) ?_
    | refine run_condF rfl (by first | rfl | assumption) ?_
    | refine run_skip ?_
    | refine run_retOk (resOk_tmp rfl rfl ?_)
    | fail)
      all_goals exact PLe.refl _
    · have hq1 : decide (((m.length : Nat) : Int) = 0) = false := by
        rw [hl]
        cases q with
        | nil => exact absurd rfl hn
        | cons x r => simp; omega
      repeat' (first
    | refine run_seq ?_
    | (refine k_pick rfl ?_; first | refine k_assignD rfl rfl ?_ | refine k_moveD rfl rfl ?_ | refine k_loadW rfl rfl rfl (by first | rfl | (simp only [cellsD]; rfl)) ?_ | refine k_bin2B rfl rfl rfl rfl ?_ | refine k_boxW rfl rfl rfl (by first | rfl | (simp only [cellsD]; rfl)) ?_ | refine k_call rfl (by kernel_rfl) rfl (by first | exact lenM_p _) ?_ | refine k_storeB rfl rfl rfl rfl rfl ?_ | refine k_alloc rfl rfl ?_ | refine k_invAS1 (thk [] 200) rfl rfl (by kernel_rfl) (alloc_c) rfl trivial rfl (freshB_ok rfl) rfl ?_ | refine k_invAS1 (thk [(1000, _), (1001, _), (1002, _), (1003, _)] 200) rfl rfl (by kernel_rfl) (hC) rfl ⟨rfl, ⟨rfl, ⟨rfl, ⟨rfl, trivial⟩⟩⟩⟩ rfl (freshB_ok rfl) rfl ?_ | refine k_invS rfl rfl (by kernel_rfl) rfl (by first | exact lenM_p _) ?_ | refine k_makeFunc rfl ?_)
    | refine run_opsEnd ?_
    | refine run_region ?_
    | refine run_condF rfl (by first | rfl | assumption) ?_
    | refine run_skip ?_
    | refine run_retOk (resOk_tmp rfl rfl ?_)
    | refine run_drawC (by kernel_rfl) ?_
    | refine c_nil (And.intro (by kernel_rfl) ?_)
    | refine c_pick (d_loadW rfl rfl rfl (by first | rfl | (simp only [cellsD]; rfl))) ?_
    | refine c_pick (d_loadBP rfl rfl rfl rfl) ?_
    | refine c_pick (d_nilI rfl rfl) ?_
    | refine c_pick (d_ifaceP rfl rfl (by kernel_rfl)) ?_
    | refine c_pick (d_deferA rfl free_idle) ?_
    | fail)
      all_goals exact PLe.refl _
  · have hq0 : decide (((m.length : Nat) : Int) ≠ ((q.length : Nat) : Int)) = true := by simp; omega
    have e1 : Nat.beq m.length q.length = false := by
      cases h : Nat.beq m.length q.length with
      | false => rfl
      | true => exact absurd (Nat.eq_of_beq_eq_true h) hl
    rw [e1, Bool.false_and]
    repeat' (first
    | refine run_seq ?_
    | (refine k_pick rfl ?_; first | refine k_assignD rfl rfl ?_ | refine k_moveD rfl rfl ?_ | refine k_loadW rfl rfl rfl (by first | rfl | (simp only [cellsD]; rfl)) ?_ | refine k_bin2B rfl rfl rfl rfl ?_ | refine k_boxW rfl rfl rfl (by first | rfl | (simp only [cellsD]; rfl)) ?_ | refine k_call rfl (by kernel_rfl) rfl (by first | exact lenM_p _) ?_ | refine k_invS rfl rfl (by kernel_rfl) rfl (by first | exact lenM_p _) ?_)
    | refine run_opsEnd ?_
    | refine run_region ?_
    | refine run_condT rfl (by first | rfl | assumption) ?_
    | refine run_retOk (resOk_tmp rfl rfl ?_)
    | fail)
    all_goals exact PLe.refl _
set_option maxHeartbeats 4000000 in
theorem eqNum_p : ∀ (j k : JV), (j.IsInt || j.IsFloat) = true → (k.IsInt || k.IsFloat) = true → PCall Try.prog 130 [dvA, dvV j, dvV k] (.val (.bool (eqJ j k))) := by
  intro j k hj hk
  refine pcall_of_run Try.func130 rfl Try.ntmps130 rfl (fun X => ?_)
  cases j <;> simp only [JV.IsInt, JV.IsFloat, Bool.or_self, Bool.false_eq_true, Bool.or_false, Bool.or_true] at hj <;> cases k <;> simp only [JV.IsInt, JV.IsFloat, Bool.or_self, Bool.false_eq_true, Bool.or_false, Bool.or_true] at hk
  all_goals
    repeat' (first
    | refine run_seq ?_
    | (refine k_pick rfl ?_; first | refine k_assignD rfl rfl ?_ | refine k_moveD rfl rfl ?_ | refine k_bin2B rfl rfl rfl rfl ?_ | refine k_pickT rfl rfl (by first | rfl | assumption) rfl ?_ | refine k_pickF rfl rfl (by first | rfl | assumption) rfl ?_ | refine k_invD rfl rfl rfl (by kernel_rfl) rfl (by first | exact IsFloat_p _ | exact IsInt_p _ | exact AsFloat_p _ | exact AsInt_p _) ?_ | refine k_fltC rfl rfl rfl rfl ?_ | refine k_convF (q := .f64) rfl rfl (by kernel_rfl) (by kernel_rfl) ?_)
    | refine run_opsEnd ?_
    | refine run_region ?_
    | refine run_condT rfl (by first | rfl | assumption) ?_
    | refine run_condF rfl (by first | rfl | assumption) ?_
    | (refine k_guardY rfl rfl (by first | rfl | assumption) ?_; first | refine k_moveD rfl rfl ?_ | refine k_invD rfl rfl rfl (by kernel_rfl) rfl (by first | exact IsFloat_p _ | exact IsInt_p _ | exact AsFloat_p _ | exact AsInt_p _) ?_)
    | refine k_guardNF rfl rfl (by first | rfl | assumption) rfl ?_
    | refine run_skip ?_
    | refine run_retOk (resOk_tmp rfl rfl ?_)
    | fail)
  all_goals exact PLe.of_eq (by unfold eqJ; rfl)
end Go.Proofs.Ytlghpcokbppkfaa
