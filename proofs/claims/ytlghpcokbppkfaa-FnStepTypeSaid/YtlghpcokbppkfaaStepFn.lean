/- The law FnStepType answers true. -/
import Derived.Test.YtlghpcokbppkfaaStepLaw
set_option linter.unusedVariables false
namespace Go.Proofs.Ytlghpcokbppkfaa
open Go.RowKit
set_option linter.unusedSimpArgs false
set_option maxRecDepth 10000
set_option maxHeartbeats 4000000

theorem sameRef_p (r : TR) : PCall Try.prog 32 [qR (nR r), qR r] (.val (.bool true)) := by
  refine pcall_fits fun hfit => ?_
  have c := refsAlike_c r (by rw [pdR_eq]; exact hfit (qR r) (by simp))
  unfold fSV at c
  refine pcall_of_run Try.func32 rfl Try.ntmps32 rfl (fun X => ?_)
  repeat' (first
    | refine run_seq ?_
    | (refine k_pick rfl ?_; first | refine k_assignD rfl rfl ?_ | refine k_loadW rfl rfl rfl (by first | rfl | (simp only [cellsD]; rfl)) ?_ | refine k_boxW rfl rfl rfl (by first | rfl | (simp only [cellsD]; rfl)) ?_ | refine k_call rfl (by kernel_rfl) rfl (by first | exact c) ?_)
    | refine run_opsEnd ?_
    | refine run_region ?_
    | refine run_retOk (resOk_tmp rfl rfl ?_)
    | fail)
  all_goals exact PLe.refl _
theorem lawStep_p (m : TM) (e : EV) : PCall Try.prog 7 [qM m, pdE e] (.val (.bool true)) := by
  obtain ⟨b0, c0⟩ := fits20_p m
  obtain ⟨b1, c1⟩ := fits13_p e
  have cI := stepType_p m e
  have cT := tStep_p m e
  have eq : pdM m = qM m := pdM_eq m
  rw [eq] at c0 cI
  generalize stepR m (toPE e) = r at *
  have cS := sameRef_p r
  refine pcall_of_run Try.func7 rfl Try.ntmps7 rfl (fun X => ?_)
  cases b0
  · repeat' (first
    | refine run_seq ?_
    | (refine k_pick rfl ?_; first | refine k_assignD rfl rfl ?_ | refine k_moveD rfl rfl ?_ | refine k_loadW rfl rfl rfl (by first | rfl | (simp only [pdE, cellsD]; rfl)) ?_ | refine k_pickT rfl rfl (by first | rfl | assumption) rfl ?_ | refine k_boxW rfl rfl rfl (by first | rfl | (simp only [pdE, cellsD]; rfl)) ?_ | refine k_call rfl (by kernel_rfl) rfl (by first | exact c0 | (simp only [← pdE]; exact c0)) ?_ | refine k_not rfl rfl ?_)
    | refine run_opsEnd ?_
    | refine run_region ?_
    | refine run_condT rfl (by first | rfl | assumption) ?_
    | refine k_guardNF rfl rfl (by first | rfl | assumption) rfl ?_
    | refine run_retOk (resOk_tmp rfl rfl ?_)
    | fail)
    all_goals exact PLe.refl _
  cases b1
  · repeat' (first
    | refine run_seq ?_
    | (refine k_pick rfl ?_; first | refine k_assignD rfl rfl ?_ | refine k_moveD rfl rfl ?_ | refine k_loadW rfl rfl rfl (by first | rfl | (simp only [pdE, cellsD]; rfl)) ?_ | refine k_pickF rfl rfl (by first | rfl | assumption) rfl ?_ | refine k_boxW rfl rfl rfl (by first | rfl | (simp only [pdE, cellsD]; rfl)) ?_ | refine k_call rfl (by kernel_rfl) rfl (by first | exact c0 | (simp only [← pdE]; exact c0) | exact c1 | (simp only [← pdE]; exact c1)) ?_ | refine k_not rfl rfl ?_)
    | refine run_opsEnd ?_
    | refine run_region ?_
    | refine run_condT rfl (by first | rfl | assumption) ?_
    | (refine k_guardY rfl rfl (by first | rfl | assumption) ?_; first | refine k_loadW rfl rfl rfl (by first | rfl | (simp only [pdE, cellsD]; rfl)) ?_ | refine k_call rfl (by kernel_rfl) rfl (by first | exact c0 | (simp only [← pdE]; exact c0) | exact c1 | (simp only [← pdE]; exact c1)) ?_ | refine k_not rfl rfl ?_)
    | refine run_retOk (resOk_tmp rfl rfl ?_)
    | fail)
    all_goals exact PLe.refl _
  obtain ⟨bn, nm, ⟨sc, ls, ms⟩, rl⟩ := r
  have hL : (pdLs ls).length = ls.length := pdLs_lenN ls
  have hM : (pdMs ms).length = ms.length := pdMs_lenN ms
  cases bn
  case true =>
    have e : nzR (.mk true nm (.mk sc ls ms) rl) = true := by simp [nzR, TR.named]
    rw [e] at cI
    repeat' (first
    | refine run_seq ?_
    | (refine k_pick rfl ?_; first | refine k_assignD rfl rfl ?_ | refine k_moveD rfl rfl ?_ | refine k_fieldAddrB rfl rfl rfl ?_ | refine k_loadW rfl rfl rfl (by first | rfl | (simp only [pdE, cellsD]; rfl)) ?_ | refine k_loadBD rfl rfl rfl (by first | rfl | (simp only [pdE, cellsD]; rfl)) ?_ | refine k_pickT rfl rfl (by first | rfl | assumption) rfl ?_ | refine k_pickF rfl rfl (by first | rfl | assumption) rfl ?_ | refine k_boxW rfl rfl rfl (by first | rfl | (simp only [pdE, cellsD]; rfl)) ?_ | refine k_call rfl (by kernel_rfl) rfl (by first | exact c0 | (simp only [← pdE]; exact c0) | exact c1 | (simp only [← pdE]; exact c1) | exact cI | (simp only [← pdE]; exact cI) | exact cT | (simp only [← pdE]; exact cT) | exact cS | (simp only [← pdE]; exact cS)) ?_ | refine k_extract rfl rfl rfl ?_ | refine k_cmpBool rfl rfl rfl (by kernel_rfl) rfl ?_ | refine k_not rfl rfl ?_ | refine k_storeB rfl rfl rfl rfl rfl ?_ | refine k_alloc rfl rfl ?_)
    | refine run_opsEnd ?_
    | refine run_region ?_
    | refine run_condF rfl (by first | rfl | assumption) ?_
    | (refine k_guardY rfl rfl (by first | rfl | assumption) ?_; first | refine k_moveD rfl rfl ?_ | refine k_loadW rfl rfl rfl (by first | rfl | (simp only [pdE, cellsD]; rfl)) ?_ | refine k_loadBD rfl rfl rfl (by first | rfl | (simp only [pdE, cellsD]; rfl)) ?_ | refine k_pickF rfl rfl (by first | rfl | assumption) rfl ?_ | refine k_call rfl (by kernel_rfl) rfl (by first | exact c0 | (simp only [← pdE]; exact c0) | exact c1 | (simp only [← pdE]; exact c1) | exact cI | (simp only [← pdE]; exact cI) | exact cT | (simp only [← pdE]; exact cT) | exact cS | (simp only [← pdE]; exact cS)) ?_ | refine k_not rfl rfl ?_)
    | refine k_guardNF rfl rfl (by first | rfl | assumption) rfl ?_
    | refine run_skip ?_
    | refine run_retOk (resOk_tmp rfl rfl ?_)
    | fail)
    all_goals exact PLe.of_eq (by first | rfl | simp [*])
  by_cases h1 : rl = ⟨#[]⟩
  case neg =>
    have e1 : decide (rl ≠ ⟨#[]⟩) = true := by simpa using h1
    have e : nzR (.mk false nm (.mk sc ls ms) rl) = true := by simp [nzR, TR.named, TR.rel, h1]
    rw [e] at cI
    repeat' (first
    | refine run_seq ?_
    | (refine k_pick rfl ?_; first | refine k_assignD rfl rfl ?_ | refine k_moveD rfl rfl ?_ | refine k_fieldAddrB rfl rfl rfl ?_ | refine k_loadW rfl rfl rfl (by first | rfl | (simp only [pdE, cellsD]; rfl)) ?_ | refine k_loadBD rfl rfl rfl (by first | rfl | (simp only [pdE, cellsD]; rfl)) ?_ | refine k_pickT rfl rfl (by first | rfl | assumption) rfl ?_ | refine k_pickF rfl rfl (by first | rfl | assumption) rfl ?_ | refine k_boxW rfl rfl rfl (by first | rfl | (simp only [pdE, cellsD]; rfl)) ?_ | refine k_call rfl (by kernel_rfl) rfl (by first | exact c0 | (simp only [← pdE]; exact c0) | exact c1 | (simp only [← pdE]; exact c1) | exact cI | (simp only [← pdE]; exact cI) | exact cT | (simp only [← pdE]; exact cT) | exact cS | (simp only [← pdE]; exact cS)) ?_ | refine k_extract rfl rfl rfl ?_ | refine k_cmpBool rfl rfl rfl (by kernel_rfl) rfl ?_ | refine k_not rfl rfl ?_ | refine k_storeB rfl rfl rfl rfl rfl ?_ | refine k_alloc rfl rfl ?_)
    | refine run_opsEnd ?_
    | refine run_region ?_
    | refine run_condF rfl (by first | rfl | assumption) ?_
    | (refine k_guardY rfl rfl (by first | rfl | assumption) ?_; first | refine k_moveD rfl rfl ?_ | refine k_fieldAddrB rfl rfl rfl ?_ | refine k_loadW rfl rfl rfl (by first | rfl | (simp only [pdE, cellsD]; rfl)) ?_ | refine k_loadBD rfl rfl rfl (by first | rfl | (simp only [pdE, cellsD]; rfl)) ?_ | refine k_bin2B rfl rfl rfl rfl ?_ | refine k_pickF rfl rfl (by first | rfl | assumption) rfl ?_ | refine k_call rfl (by kernel_rfl) rfl (by first | exact c0 | (simp only [← pdE]; exact c0) | exact c1 | (simp only [← pdE]; exact c1) | exact cI | (simp only [← pdE]; exact cI) | exact cT | (simp only [← pdE]; exact cT) | exact cS | (simp only [← pdE]; exact cS)) ?_ | refine k_not rfl rfl ?_)
    | refine k_guardNF rfl rfl (by first | rfl | assumption) rfl ?_
    | refine run_skip ?_
    | refine run_retOk (resOk_tmp rfl rfl ?_)
    | fail)
    all_goals exact PLe.of_eq (by first | rfl | simp [*])
  have e1 : decide (rl ≠ ⟨#[]⟩) = false := by simpa using h1
  by_cases h2 : sc = ⟨#[]⟩
  case neg =>
    have e2 : decide (sc ≠ ⟨#[]⟩) = true := by simpa using h2
    have e : nzR (.mk false nm (.mk sc ls ms) rl) = true := by simp [nzR, TR.named, TR.rel, TR.atom, TA.scalar, h2]
    rw [e] at cI
    repeat' (first
    | refine run_seq ?_
    | (refine k_pick rfl ?_; first | refine k_assignD rfl rfl ?_ | refine k_moveD rfl rfl ?_ | refine k_fieldAddrB rfl rfl rfl ?_ | refine k_loadW rfl rfl rfl (by first | rfl | (simp only [pdE, cellsD]; rfl)) ?_ | refine k_loadBD rfl rfl rfl (by first | rfl | (simp only [pdE, cellsD]; rfl)) ?_ | refine k_pickT rfl rfl (by first | rfl | assumption) rfl ?_ | refine k_pickF rfl rfl (by first | rfl | assumption) rfl ?_ | refine k_boxW rfl rfl rfl (by first | rfl | (simp only [pdE, cellsD]; rfl)) ?_ | refine k_call rfl (by kernel_rfl) rfl (by first | exact c0 | (simp only [← pdE]; exact c0) | exact c1 | (simp only [← pdE]; exact c1) | exact cI | (simp only [← pdE]; exact cI) | exact cT | (simp only [← pdE]; exact cT) | exact cS | (simp only [← pdE]; exact cS)) ?_ | refine k_extract rfl rfl rfl ?_ | refine k_cmpBool rfl rfl rfl (by kernel_rfl) rfl ?_ | refine k_not rfl rfl ?_ | refine k_storeB rfl rfl rfl rfl rfl ?_ | refine k_alloc rfl rfl ?_)
    | refine run_opsEnd ?_
    | refine run_region ?_
    | refine run_condF rfl (by first | rfl | assumption) ?_
    | (refine k_guardY rfl rfl (by first | rfl | assumption) ?_; first | refine k_moveD rfl rfl ?_ | refine k_fieldAddrB rfl rfl rfl ?_ | refine k_loadW rfl rfl rfl (by first | rfl | (simp only [pdE, cellsD]; rfl)) ?_ | refine k_loadBD rfl rfl rfl (by first | rfl | (simp only [pdE, cellsD]; rfl)) ?_ | refine k_bin2B rfl rfl rfl rfl ?_ | refine k_pickF rfl rfl (by first | rfl | assumption) rfl ?_ | refine k_call rfl (by kernel_rfl) rfl (by first | exact c0 | (simp only [← pdE]; exact c0) | exact c1 | (simp only [← pdE]; exact c1) | exact cI | (simp only [← pdE]; exact cI) | exact cT | (simp only [← pdE]; exact cT) | exact cS | (simp only [← pdE]; exact cS)) ?_ | refine k_not rfl rfl ?_)
    | refine k_guardNF rfl rfl (by first | rfl | assumption) rfl ?_
    | refine run_skip ?_
    | refine run_retOk (resOk_tmp rfl rfl ?_)
    | fail)
    all_goals exact PLe.of_eq (by first | rfl | simp [*])
  have e2 : decide (sc ≠ ⟨#[]⟩) = false := by simpa using h2
  by_cases h3 : ls = []
  case neg =>
    have e3 : decide ((0 : Int) < ((pdLs ls).length : Int)) = true := by rw [hL]; simpa using List.length_pos_iff.2 h3
    have g3 : (true == decide ((0 : Int) < ((pdLs ls).length : Int))) = true := by rw [e3]; rfl
    have e : nzR (.mk false nm (.mk sc ls ms) rl) = true := by simp [nzR, TR.named, TR.rel, TR.atom, TA.lists, h3]
    rw [e] at cI
    repeat' (first
    | refine run_seq ?_
    | (refine k_pick rfl ?_; first | refine k_assignD rfl rfl ?_ | refine k_moveD rfl rfl ?_ | refine k_fieldAddrB rfl rfl rfl ?_ | refine k_loadW rfl rfl rfl (by first | rfl | (simp only [pdE, cellsD]; rfl)) ?_ | refine k_loadBD rfl rfl rfl (by first | rfl | (simp only [pdE, cellsD]; rfl)) ?_ | refine k_pickT rfl rfl (by first | rfl | assumption) rfl ?_ | refine k_pickF rfl rfl (by first | rfl | assumption) rfl ?_ | refine k_boxW rfl rfl rfl (by first | rfl | (simp only [pdE, cellsD]; rfl)) ?_ | refine k_call rfl (by kernel_rfl) rfl (by first | exact c0 | (simp only [← pdE]; exact c0) | exact c1 | (simp only [← pdE]; exact c1) | exact cI | (simp only [← pdE]; exact cI) | exact cT | (simp only [← pdE]; exact cT) | exact cS | (simp only [← pdE]; exact cS)) ?_ | refine k_extract rfl rfl rfl ?_ | refine k_cmpBool rfl rfl rfl (by kernel_rfl) rfl ?_ | refine k_not rfl rfl ?_ | refine k_storeB rfl rfl rfl rfl rfl ?_ | refine k_alloc rfl rfl ?_)
    | refine run_opsEnd ?_
    | refine run_region ?_
    | refine run_condF rfl (by first | rfl | assumption) ?_
    | (refine k_guardY rfl rfl (by first | rfl | assumption) ?_; first | refine k_moveD rfl rfl ?_ | refine k_fieldAddrB rfl rfl rfl ?_ | refine k_loadW rfl rfl rfl (by first | rfl | (simp only [pdE, cellsD]; rfl)) ?_ | refine k_loadBD rfl rfl rfl (by first | rfl | (simp only [pdE, cellsD]; rfl)) ?_ | refine k_bin2B rfl rfl rfl rfl ?_ | refine k_pickF rfl rfl (by first | rfl | assumption) rfl ?_ | refine k_call rfl (by kernel_rfl) rfl (by first | exact c0 | (simp only [← pdE]; exact c0) | exact c1 | (simp only [← pdE]; exact c1) | exact cI | (simp only [← pdE]; exact cI) | exact cT | (simp only [← pdE]; exact cT) | exact cS | (simp only [← pdE]; exact cS)) ?_ | refine k_lenD rfl rfl ?_ | refine k_not rfl rfl ?_)
    | refine k_guardNF rfl rfl (by first | rfl | assumption) rfl ?_
    | refine run_skip ?_
    | refine run_retOk (resOk_tmp rfl rfl ?_)
    | fail)
    all_goals exact PLe.of_eq (by first | rfl | simp [*])
  have e3 : decide ((0 : Int) < ((pdLs ls).length : Int)) = false := by rw [hL, h3]; rfl
  by_cases h4 : ms = []
  case neg =>
    have e4 : decide ((0 : Int) < ((pdMs ms).length : Int)) = true := by rw [hM]; simpa using List.length_pos_iff.2 h4
    have g4 : (true == decide ((0 : Int) < ((pdMs ms).length : Int))) = true := by rw [e4]; rfl
    have e : nzR (.mk false nm (.mk sc ls ms) rl) = true := by simp [nzR, TR.named, TR.rel, TR.atom, TA.maps, h4]
    rw [e] at cI
    repeat' (first
    | refine run_seq ?_
    | (refine k_pick rfl ?_; first | refine k_assignD rfl rfl ?_ | refine k_moveD rfl rfl ?_ | refine k_fieldAddrB rfl rfl rfl ?_ | refine k_loadW rfl rfl rfl (by first | rfl | (simp only [pdE, cellsD]; rfl)) ?_ | refine k_loadBD rfl rfl rfl (by first | rfl | (simp only [pdE, cellsD]; rfl)) ?_ | refine k_pickT rfl rfl (by first | rfl | assumption) rfl ?_ | refine k_pickF rfl rfl (by first | rfl | assumption) rfl ?_ | refine k_boxW rfl rfl rfl (by first | rfl | (simp only [pdE, cellsD]; rfl)) ?_ | refine k_call rfl (by kernel_rfl) rfl (by first | exact c0 | (simp only [← pdE]; exact c0) | exact c1 | (simp only [← pdE]; exact c1) | exact cI | (simp only [← pdE]; exact cI) | exact cT | (simp only [← pdE]; exact cT) | exact cS | (simp only [← pdE]; exact cS)) ?_ | refine k_extract rfl rfl rfl ?_ | refine k_cmpBool rfl rfl rfl (by kernel_rfl) rfl ?_ | refine k_not rfl rfl ?_ | refine k_storeB rfl rfl rfl rfl rfl ?_ | refine k_alloc rfl rfl ?_)
    | refine run_opsEnd ?_
    | refine run_region ?_
    | refine run_condF rfl (by first | rfl | assumption) ?_
    | (refine k_guardY rfl rfl (by first | rfl | assumption) ?_; first | refine k_moveD rfl rfl ?_ | refine k_fieldAddrB rfl rfl rfl ?_ | refine k_loadW rfl rfl rfl (by first | rfl | (simp only [pdE, cellsD]; rfl)) ?_ | refine k_loadBD rfl rfl rfl (by first | rfl | (simp only [pdE, cellsD]; rfl)) ?_ | refine k_bin2B rfl rfl rfl rfl ?_ | refine k_pickF rfl rfl (by first | rfl | assumption) rfl ?_ | refine k_call rfl (by kernel_rfl) rfl (by first | exact c0 | (simp only [← pdE]; exact c0) | exact c1 | (simp only [← pdE]; exact c1) | exact cI | (simp only [← pdE]; exact cI) | exact cT | (simp only [← pdE]; exact cT) | exact cS | (simp only [← pdE]; exact cS)) ?_ | refine k_lenD rfl rfl ?_ | refine k_not rfl rfl ?_)
    | refine run_skip ?_
    | refine run_retOk (resOk_tmp rfl rfl ?_)
    | fail)
    all_goals exact PLe.of_eq (by first | rfl | simp [*])
  have e4 : decide ((0 : Int) < ((pdMs ms).length : Int)) = false := by rw [hM, h4]; rfl
  have g5 : (false == decide ((0 : Int) < ((pdMs ms).length : Int))) = true := by rw [e4]; rfl
  have e : nzR (.mk false nm (.mk sc ls ms) rl) = false := by simp [nzR, TR.named, TR.rel, TR.atom, TA.scalar, TA.lists, TA.maps, h1, h2, h3, h4]
  rw [e] at cI
  repeat' (first
    | refine run_seq ?_
    | (refine k_pick rfl ?_; first | refine k_assignD rfl rfl ?_ | refine k_moveD rfl rfl ?_ | refine k_fieldAddrB rfl rfl rfl ?_ | refine k_loadW rfl rfl rfl (by first | rfl | (simp only [pdE, cellsD]; rfl)) ?_ | refine k_loadBD rfl rfl rfl (by first | rfl | (simp only [pdE, cellsD]; rfl)) ?_ | refine k_pickT rfl rfl (by first | rfl | assumption) rfl ?_ | refine k_pickF rfl rfl (by first | rfl | assumption) rfl ?_ | refine k_boxW rfl rfl rfl (by first | rfl | (simp only [pdE, cellsD]; rfl)) ?_ | refine k_call rfl (by kernel_rfl) rfl (by first | exact c0 | (simp only [← pdE]; exact c0) | exact c1 | (simp only [← pdE]; exact c1) | exact cI | (simp only [← pdE]; exact cI) | exact cT | (simp only [← pdE]; exact cT)) ?_ | refine k_extract rfl rfl rfl ?_ | refine k_cmpBool rfl rfl rfl (by kernel_rfl) rfl ?_ | refine k_not rfl rfl ?_ | refine k_storeB rfl rfl rfl rfl rfl ?_ | refine k_alloc rfl rfl ?_)
    | refine run_opsEnd ?_
    | refine run_region ?_
    | refine run_condF rfl (by first | rfl | assumption) ?_
    | (refine k_guardY rfl rfl (by first | rfl | assumption) ?_; first | refine k_moveD rfl rfl ?_ | refine k_fieldAddrB rfl rfl rfl ?_ | refine k_loadW rfl rfl rfl (by first | rfl | (simp only [pdE, cellsD]; rfl)) ?_ | refine k_loadBD rfl rfl rfl (by first | rfl | (simp only [pdE, cellsD]; rfl)) ?_ | refine k_bin2B rfl rfl rfl rfl ?_ | refine k_pickT rfl rfl (by first | rfl | assumption) rfl ?_ | refine k_call rfl (by kernel_rfl) rfl (by first | exact c0 | (simp only [← pdE]; exact c0) | exact c1 | (simp only [← pdE]; exact c1) | exact cI | (simp only [← pdE]; exact cI) | exact cT | (simp only [← pdE]; exact cT)) ?_ | refine k_lenD rfl rfl ?_ | refine k_not rfl rfl ?_)
    | refine k_guardNF rfl rfl (by first | rfl | assumption) rfl ?_
    | refine run_skip ?_
    | refine run_retOk (resOk_tmp rfl rfl ?_)
    | fail)
  all_goals exact PLe.of_eq (by first | rfl | simp [*])
end Go.Proofs.Ytlghpcokbppkfaa
