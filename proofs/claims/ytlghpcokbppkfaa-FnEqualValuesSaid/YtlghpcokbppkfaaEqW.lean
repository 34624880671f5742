import Derived.Test.YtlghpcokbppkfaaValP
import Derived.Test.YtlghpcokbppkfaaEqL
import Derived.Test.YtlghpcokbppkfaaFitsP
set_option linter.unusedVariables false
/- laws.FnEqualValues. -/
namespace Go.Proofs.Ytlghpcokbppkfaa
open Go.RowKit
set_option linter.unusedSimpArgs false

theorem implEq_p (x y : GV) : PCall Try.prog 47 [qV x, qV y] (.val (.bool (eqJ (plainJ x) (plainJ y)))) := by
  have c1 := toValue_p x
  have c2 := toValue_p y
  have c3 := equals_p (plainJ x) (plainJ y)
  refine pcall_of_run Try.func47 rfl Try.ntmps47 rfl (fun X => ?_)
  repeat' (first
    | refine run_seq ?_
    | (refine k_pick rfl ?_; first | refine k_assignD rfl rfl ?_ | refine k_boxW rfl rfl rfl (by first | rfl | (simp only [cellsD]; rfl)) ?_)
    | refine run_opsEnd ?_
    | refine run_region ?_
    | refine run_retOk (resOk_tmp rfl rfl ?_)
    | refine run_drawC (by kernel_rfl) ?_
    | refine c_nil (And.intro (by kernel_rfl) ?_)
    | refine c_pick (d_assignD rfl rfl) ?_
    | refine c_pick (d_loadW rfl rfl rfl (by first | rfl | (simp only [cellsD]; rfl))) ?_
    | refine c_pick (d_call rfl (by kernel_rfl) rfl (by first | exact c1 | exact c2 | exact c3)) ?_
    | fail)
  all_goals exact PLe.refl _
set_option maxHeartbeats 4000000 in
theorem lawEq_p (x y : GV) : PCall Try.prog 10 [qV x, qV y] (.val (.bool true)) := by
  refine pcall_fits fun hf => ?_
  obtain ⟨w0, F0, v0, h0⟩ := hf (qV x) (by simp)
  obtain ⟨w1, F1, v1, h1⟩ := hf (qV y) (by simp)
  have j1 := plain_ok x (IsV.gok x (rep_isV x (by rw [pdV_eq]; exact h0)))
  have j2 := plain_ok y (IsV.gok y (rep_isV y (by rw [pdV_eq]; exact h1)))
  have key := eq_law (plainJ y) (plainJ x) j1 j2
  rw [un_plain, un_plain] at key
  have c1 := implEq_p x y
  have c2 := eqSpec_p x y
  rw [key] at c2
  have c3 := ordV_p x
  have c4 := ordV_p y
  obtain ⟨b1, c5⟩ := fits5_p x
  obtain ⟨b2, c6⟩ := fits5_p y
  clear hf h0 h1 key j1 j2
  generalize eqJ (plainJ x) (plainJ y) = r at *
  generalize ordV x = o1 at *
  generalize ordV y = o2 at *
  refine pcall_of_run Try.func10 rfl Try.ntmps10 rfl (fun X => ?_)
  cases b1 <;> cases b2 <;> cases o1 <;> cases o2
  all_goals
    repeat' (first
    | refine run_seq ?_
    | (refine k_pick rfl ?_; first | refine k_assignD rfl rfl ?_ | refine k_moveD rfl rfl ?_ | refine k_loadW rfl rfl rfl (by first | rfl | (simp only [cellsD]; rfl)) ?_ | refine k_pickT rfl rfl (by first | rfl | assumption) rfl ?_ | refine k_pickF rfl rfl (by first | rfl | assumption) rfl ?_ | refine k_boxW rfl rfl rfl (by first | rfl | (simp only [cellsD]; rfl)) ?_ | refine k_call rfl (by kernel_rfl) rfl (by first | exact c1 | exact c2 | exact c3 | exact c4 | exact c5 | exact c6) ?_ | refine k_not rfl rfl ?_)
    | refine run_opsEnd ?_
    | refine run_region ?_
    | refine run_condT rfl (by first | rfl | assumption) ?_
    | refine run_condF rfl (by first | rfl | assumption) ?_
    | (refine k_guardY rfl rfl (by first | rfl | assumption) ?_; first | refine k_loadW rfl rfl rfl (by first | rfl | (simp only [cellsD]; rfl)) ?_ | refine k_call rfl (by kernel_rfl) rfl (by first | exact c1 | exact c2 | exact c3 | exact c4 | exact c5 | exact c6) ?_ | refine k_not rfl rfl ?_)
    | refine k_guardNF rfl rfl (by first | rfl | assumption) rfl ?_
    | refine run_skip ?_
    | refine run_retOk (resOk_tmp rfl rfl ?_)
    | refine run_drawC (by kernel_rfl) ?_
    | refine c_nil (And.intro (by kernel_rfl) ?_)
    | refine c_pick (d_assignD rfl rfl) ?_
    | refine c_pick (d_loadW rfl rfl rfl (by first | rfl | (simp only [cellsD]; rfl))) ?_
    | refine c_pick (d_call rfl (by kernel_rfl) rfl (by first | exact c1 | exact c2 | exact c3 | exact c4 | exact c5 | exact c6)) ?_
    | refine c_pick (d_cmpBool rfl rfl rfl (by kernel_rfl) rfl) ?_
    | fail)
  all_goals first | exact PLe.refl _ | exact PLe.of_eq (by cases r <;> rfl)
end Go.Proofs.Ytlghpcokbppkfaa
