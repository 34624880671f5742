/- Part 9 of what the proof rests on. -/
import Derived.ProofKit
import Derived.SizedLaws
import Derived.Test.YtbbacpdbbmjblaaEKi2
import Derived.Test.YtbbacpdbbmjblaaEKi4
import Derived.Test.YtbbacpdbbmjblaaEKi6
import Derived.Test.YtbbacpdbbmjblaaEKi7
import Derived.Test.YtbbacpdbbmjblaaEKi8
section
set_option linter.unusedVariables false
namespace Go.Proofs.Ytbbacpdbbmjblaa
open Go.RowKit
set_option linter.unusedSimpArgs false
def rkE (x : EV) : Int := if x.kind = 1 then 1 else if x.kind = 2 then 2 else if x.kind = 3 then 3 else 0
theorem toPE_kind (x : EV) : (x.kind = 1 ∧ rkE x = 1 ∧ toPE x = .key (flE x)) ∨ (x.kind = 2 ∧ rkE x = 2 ∧ toPE x = .val (plainJ x.v)) ∨ (x.kind = 3 ∧ rkE x = 3 ∧ toPE x = .idx x.n) ∨ (x.kind ≠ 1 ∧ x.kind ≠ 2 ∧ x.kind ≠ 3 ∧ rkE x = 0 ∧ toPE x = .name x.s) := by
  unfold rkE toPE
  by_cases h1 : x.kind = 1
  · simp [h1]
  · by_cases h2 : x.kind = 2
    · simp [h2]
    · by_cases h3 : x.kind = 3
      · simp [h3]
      · simp [h1, h2, h3]
theorem rk_to (x : EV) : rkPE (toPE x) = rkE x := by
  rcases toPE_kind x with h | h | h | h
  · rw [h.2.2, h.2.1]; rfl
  · rw [h.2.2, h.2.1]; rfl
  · rw [h.2.2, h.2.1]; rfl
  · rw [h.2.2.2.2, h.2.2.2.1]; rfl
theorem rk_clean (x : EV) : (cleanE x).kind = rkE x := by
  unfold cleanE rkE
  by_cases h1 : x.kind = 1
  · simp [h1]
  · by_cases h2 : x.kind = 2
    · simp [h2]
    · by_cases h3 : x.kind = 3
      · simp [h3]
      · simp [h1, h2, h3]
theorem eqPE_rk {p q : PEV} (h : rkPE p ≠ rkPE q) : eqPE p q = false := by
  cases p <;> cases q <;> first | rfl | exact absurd rfl h
end Go.Proofs.Ytbbacpdbbmjblaa
end
section
set_option linter.unusedVariables false
namespace Go.Proofs.Ytbbacpdbbmjblaa
open Go.RowKit
set_option linter.unusedSimpArgs false
theorem fits13_p (x : EV) : ∃ b, PCall Try.prog 35 [pdE x] (.val (.bool b)) := by
  have c := fits2_p x.keys
  unfold pdE
  cases h1 : decide ((2147483647 : Int) < (x.s.size : Int)) with
  | true =>
    refine ⟨false, ?_⟩
    refine pcall_of_run Try.func35 rfl Try.ntmps35 rfl (fun X => ?_)
    repeat' (first
    | refine run_seq ?_
    | (refine k_pick rfl ?_; first
      | refine k_assignD rfl rfl ?_
      | refine k_moveD rfl rfl ?_
      | refine k_fieldAddrB rfl rfl rfl ?_
      | refine k_loadBD rfl rfl rfl (by first | rfl | (simp only [cellsD]; rfl)) ?_
      | refine k_bin2B rfl rfl rfl rfl ?_
      | refine k_boxW rfl rfl rfl (by first | rfl | (simp only [cellsD]; rfl)) ?_
      | refine k_call rfl (by kernel_rfl) rfl (by first | exact c) ?_
      | refine k_lenS rfl rfl (by kernel_rfl) ?_
      | refine k_lenD rfl rfl ?_
      | refine k_not rfl rfl ?_)
    | refine run_opsEnd ?_
    | refine run_region ?_
    | refine run_condT rfl (by first | rfl | assumption) ?_
    | refine run_condF rfl (by first | rfl | assumption) ?_
    | refine run_cond rfl (fun h => ?_) (fun h => ?_)
    | (refine k_guardY rfl rfl (by first | rfl | assumption) ?_; first
      | refine k_assignD rfl rfl ?_
      | refine k_moveD rfl rfl ?_
      | refine k_fieldAddrB rfl rfl rfl ?_
      | refine k_loadBD rfl rfl rfl (by first | rfl | (simp only [cellsD]; rfl)) ?_
      | refine k_bin2B rfl rfl rfl rfl ?_
      | refine k_boxW rfl rfl rfl (by first | rfl | (simp only [cellsD]; rfl)) ?_
      | refine k_call rfl (by kernel_rfl) rfl (by first | exact c) ?_
      | refine k_lenS rfl rfl (by kernel_rfl) ?_
      | refine k_lenD rfl rfl ?_
      | refine k_not rfl rfl ?_)
    | refine k_guardU rfl rfl rfl ?_
    | refine k_guardNT rfl rfl (by first | rfl | assumption) rfl ?_
    | refine k_guardNF rfl rfl (by first | rfl | assumption) rfl ?_
    | refine k_guardT rfl rfl rfl (fun h => ?_) (fun h => ?_)
    | refine k_guardF rfl rfl rfl (fun h => ?_) (fun h => ?_)
    | refine run_block ?_
    | refine run_blkEnd ?_
    | refine run_skip ?_
    | refine run_exit rfl ?_
    | refine run_retOk (resOk_tmp rfl rfl ?_)
    | refine run_retOk (resOk_tmp2 rfl rfl rfl ?_ ?_)
    | refine run_retOk (resOk_cell rfl rfl rfl (by first | rfl | (simp only [cellsD]; rfl)) ?_)
    | refine run_retOk (resOk_cellTmp rfl rfl rfl (by first | rfl | (simp only [cellsD]; rfl)) rfl ?_ ?_)
    | (first
      | refine k_assignD rfl rfl ?_
      | refine k_moveD rfl rfl ?_
      | refine k_fieldAddrB rfl rfl rfl ?_
      | refine k_loadBD rfl rfl rfl (by first | rfl | (simp only [cellsD]; rfl)) ?_
      | refine k_bin2B rfl rfl rfl rfl ?_
      | refine k_boxW rfl rfl rfl (by first | rfl | (simp only [cellsD]; rfl)) ?_
      | refine k_call rfl (by kernel_rfl) rfl (by first | exact c) ?_
      | refine k_lenS rfl rfl (by kernel_rfl) ?_
      | refine k_lenD rfl rfl ?_
      | refine k_not rfl rfl ?_)
    | refine run_drawC (by kernel_rfl) ?_
    | refine c_nil (And.intro (by kernel_rfl) ?_)
    | refine c_pick (d_assignD rfl rfl) ?_
    | refine c_pick (d_moveD rfl rfl) ?_
    | refine c_pick (d_fieldAddrB rfl rfl rfl) ?_
    | refine c_pick (d_loadBD rfl rfl rfl (by first | rfl | (simp only [cellsD]; rfl))) ?_
    | refine c_pick (d_bin2B rfl rfl rfl rfl) ?_
    | refine c_pick (d_boxW rfl rfl rfl (by first | rfl | (simp only [cellsD]; rfl))) ?_
    | refine c_pick (d_call rfl (by kernel_rfl) rfl (by first | exact c)) ?_
    | refine c_pick (d_lenS rfl rfl (by kernel_rfl)) ?_
    | refine c_pick (d_lenD rfl rfl) ?_
    | refine c_pick (d_not rfl rfl) ?_
    | refine c_passU rfl rfl ?_
    | refine c_passT rfl (by first | rfl | assumption) rfl ?_
    | refine c_passF rfl (by first | rfl | assumption) rfl ?_
    | refine c_pickY rfl (by first | rfl | assumption) (d_assignD rfl rfl) ?_
    | refine c_pickY rfl (by first | rfl | assumption) (d_moveD rfl rfl) ?_
    | refine c_pickY rfl (by first | rfl | assumption) (d_fieldAddrB rfl rfl rfl) ?_
    | refine c_pickY rfl (by first | rfl | assumption) (d_loadBD rfl rfl rfl (by first | rfl | (simp only [cellsD]; rfl))) ?_
    | refine c_pickY rfl (by first | rfl | assumption) (d_bin2B rfl rfl rfl rfl) ?_
    | refine c_pickY rfl (by first | rfl | assumption) (d_boxW rfl rfl rfl (by first | rfl | (simp only [cellsD]; rfl))) ?_
    | refine c_pickY rfl (by first | rfl | assumption) (d_call rfl (by kernel_rfl) rfl (by first | exact c)) ?_
    | refine c_pickY rfl (by first | rfl | assumption) (d_lenS rfl rfl (by kernel_rfl)) ?_
    | refine c_pickY rfl (by first | rfl | assumption) (d_lenD rfl rfl) ?_
    | refine c_pickY rfl (by first | rfl | assumption) (d_not rfl rfl) ?_
    | refine c_pickD rfl (by assumption) (d_assignD rfl rfl) ?_
    | refine c_pickD rfl (by assumption) (d_moveD rfl rfl) ?_
    | refine c_pickD rfl (by assumption) (d_fieldAddrB rfl rfl rfl) ?_
    | refine c_pickD rfl (by assumption) (d_loadBD rfl rfl rfl (by first | rfl | (simp only [cellsD]; rfl))) ?_
    | refine c_pickD rfl (by assumption) (d_bin2B rfl rfl rfl rfl) ?_
    | refine c_pickD rfl (by assumption) (d_boxW rfl rfl rfl (by first | rfl | (simp only [cellsD]; rfl))) ?_
    | refine c_pickD rfl (by assumption) (d_call rfl (by kernel_rfl) rfl (by first | exact c)) ?_
    | refine c_pickD rfl (by assumption) (d_lenS rfl rfl (by kernel_rfl)) ?_
    | refine c_pickD rfl (by assumption) (d_lenD rfl rfl) ?_
    | refine c_pickD rfl (by assumption) (d_not rfl rfl) ?_
    | refine c_splitT rfl rfl (fun h => ?_) (fun h => ?_)
    | refine c_splitF rfl rfl (fun h => ?_) (fun h => ?_)
    | fail)
    all_goals exact PLe.refl _
  | false =>
    cases h2 : fitS x.keys with
    | false =>
      rw [h2] at c
      refine ⟨false, ?_⟩
      refine pcall_of_run Try.func35 rfl Try.ntmps35 rfl (fun X => ?_)
      repeat' (first
    | refine run_seq ?_
    | (refine k_pick rfl ?_; first
      | refine k_assignD rfl rfl ?_
      | refine k_moveD rfl rfl ?_
      | refine k_fieldAddrB rfl rfl rfl ?_
      | refine k_loadBD rfl rfl rfl (by first | rfl | (simp only [cellsD]; rfl)) ?_
      | refine k_bin2B rfl rfl rfl rfl ?_
      | refine k_boxW rfl rfl rfl (by first | rfl | (simp only [cellsD]; rfl)) ?_
      | refine k_call rfl (by kernel_rfl) rfl (by first | exact c) ?_
      | refine k_lenS rfl rfl (by kernel_rfl) ?_
      | refine k_lenD rfl rfl ?_
      | refine k_not rfl rfl ?_)
    | refine run_opsEnd ?_
    | refine run_region ?_
    | refine run_condT rfl (by first | rfl | assumption) ?_
    | refine run_condF rfl (by first | rfl | assumption) ?_
    | refine run_cond rfl (fun h => ?_) (fun h => ?_)
    | (refine k_guardY rfl rfl (by first | rfl | assumption) ?_; first
      | refine k_assignD rfl rfl ?_
      | refine k_moveD rfl rfl ?_
      | refine k_fieldAddrB rfl rfl rfl ?_
      | refine k_loadBD rfl rfl rfl (by first | rfl | (simp only [cellsD]; rfl)) ?_
      | refine k_bin2B rfl rfl rfl rfl ?_
      | refine k_boxW rfl rfl rfl (by first | rfl | (simp only [cellsD]; rfl)) ?_
      | refine k_call rfl (by kernel_rfl) rfl (by first | exact c) ?_
      | refine k_lenS rfl rfl (by kernel_rfl) ?_
      | refine k_lenD rfl rfl ?_
      | refine k_not rfl rfl ?_)
    | refine k_guardU rfl rfl rfl ?_
    | refine k_guardNT rfl rfl (by first | rfl | assumption) rfl ?_
    | refine k_guardNF rfl rfl (by first | rfl | assumption) rfl ?_
    | refine k_guardT rfl rfl rfl (fun h => ?_) (fun h => ?_)
    | refine k_guardF rfl rfl rfl (fun h => ?_) (fun h => ?_)
    | refine run_block ?_
    | refine run_blkEnd ?_
    | refine run_skip ?_
    | refine run_exit rfl ?_
    | refine run_retOk (resOk_tmp rfl rfl ?_)
    | refine run_retOk (resOk_tmp2 rfl rfl rfl ?_ ?_)
    | refine run_retOk (resOk_cell rfl rfl rfl (by first | rfl | (simp only [cellsD]; rfl)) ?_)
    | refine run_retOk (resOk_cellTmp rfl rfl rfl (by first | rfl | (simp only [cellsD]; rfl)) rfl ?_ ?_)
    | (first
      | refine k_assignD rfl rfl ?_
      | refine k_moveD rfl rfl ?_
      | refine k_fieldAddrB rfl rfl rfl ?_
      | refine k_loadBD rfl rfl rfl (by first | rfl | (simp only [cellsD]; rfl)) ?_
      | refine k_bin2B rfl rfl rfl rfl ?_
      | refine k_boxW rfl rfl rfl (by first | rfl | (simp only [cellsD]; rfl)) ?_
      | refine k_call rfl (by kernel_rfl) rfl (by first | exact c) ?_
      | refine k_lenS rfl rfl (by kernel_rfl) ?_
      | refine k_lenD rfl rfl ?_
      | refine k_not rfl rfl ?_)
    | refine run_drawC (by kernel_rfl) ?_
    | refine c_nil (And.intro (by kernel_rfl) ?_)
    | refine c_pick (d_assignD rfl rfl) ?_
    | refine c_pick (d_moveD rfl rfl) ?_
    | refine c_pick (d_fieldAddrB rfl rfl rfl) ?_
    | refine c_pick (d_loadBD rfl rfl rfl (by first | rfl | (simp only [cellsD]; rfl))) ?_
    | refine c_pick (d_bin2B rfl rfl rfl rfl) ?_
    | refine c_pick (d_boxW rfl rfl rfl (by first | rfl | (simp only [cellsD]; rfl))) ?_
    | refine c_pick (d_call rfl (by kernel_rfl) rfl (by first | exact c)) ?_
    | refine c_pick (d_lenS rfl rfl (by kernel_rfl)) ?_
    | refine c_pick (d_lenD rfl rfl) ?_
    | refine c_pick (d_not rfl rfl) ?_
    | refine c_passU rfl rfl ?_
    | refine c_passT rfl (by first | rfl | assumption) rfl ?_
    | refine c_passF rfl (by first | rfl | assumption) rfl ?_
    | refine c_pickY rfl (by first | rfl | assumption) (d_assignD rfl rfl) ?_
    | refine c_pickY rfl (by first | rfl | assumption) (d_moveD rfl rfl) ?_
    | refine c_pickY rfl (by first | rfl | assumption) (d_fieldAddrB rfl rfl rfl) ?_
    | refine c_pickY rfl (by first | rfl | assumption) (d_loadBD rfl rfl rfl (by first | rfl | (simp only [cellsD]; rfl))) ?_
    | refine c_pickY rfl (by first | rfl | assumption) (d_bin2B rfl rfl rfl rfl) ?_
    | refine c_pickY rfl (by first | rfl | assumption) (d_boxW rfl rfl rfl (by first | rfl | (simp only [cellsD]; rfl))) ?_
    | refine c_pickY rfl (by first | rfl | assumption) (d_call rfl (by kernel_rfl) rfl (by first | exact c)) ?_
    | refine c_pickY rfl (by first | rfl | assumption) (d_lenS rfl rfl (by kernel_rfl)) ?_
    | refine c_pickY rfl (by first | rfl | assumption) (d_lenD rfl rfl) ?_
    | refine c_pickY rfl (by first | rfl | assumption) (d_not rfl rfl) ?_
    | refine c_pickD rfl (by assumption) (d_assignD rfl rfl) ?_
    | refine c_pickD rfl (by assumption) (d_moveD rfl rfl) ?_
    | refine c_pickD rfl (by assumption) (d_fieldAddrB rfl rfl rfl) ?_
    | refine c_pickD rfl (by assumption) (d_loadBD rfl rfl rfl (by first | rfl | (simp only [cellsD]; rfl))) ?_
    | refine c_pickD rfl (by assumption) (d_bin2B rfl rfl rfl rfl) ?_
    | refine c_pickD rfl (by assumption) (d_boxW rfl rfl rfl (by first | rfl | (simp only [cellsD]; rfl))) ?_
    | refine c_pickD rfl (by assumption) (d_call rfl (by kernel_rfl) rfl (by first | exact c)) ?_
    | refine c_pickD rfl (by assumption) (d_lenS rfl rfl (by kernel_rfl)) ?_
    | refine c_pickD rfl (by assumption) (d_lenD rfl rfl) ?_
    | refine c_pickD rfl (by assumption) (d_not rfl rfl) ?_
    | refine c_splitT rfl rfl (fun h => ?_) (fun h => ?_)
    | refine c_splitF rfl rfl (fun h => ?_) (fun h => ?_)
    | fail)
      all_goals exact PLe.refl _
    | true =>
      rw [h2] at c
      cases h3 : decide ((2147483647 : Int) < (((pdVs x.l).length : Nat) : Int)) with
      | true =>
        refine ⟨false, ?_⟩
        refine pcall_of_run Try.func35 rfl Try.ntmps35 rfl (fun X => ?_)
        repeat' (first
    | refine run_seq ?_
    | (refine k_pick rfl ?_; first
      | refine k_assignD rfl rfl ?_
      | refine k_moveD rfl rfl ?_
      | refine k_fieldAddrB rfl rfl rfl ?_
      | refine k_loadBD rfl rfl rfl (by first | rfl | (simp only [cellsD]; rfl)) ?_
      | refine k_bin2B rfl rfl rfl rfl ?_
      | refine k_boxW rfl rfl rfl (by first | rfl | (simp only [cellsD]; rfl)) ?_
      | refine k_call rfl (by kernel_rfl) rfl (by first | exact c) ?_
      | refine k_lenS rfl rfl (by kernel_rfl) ?_
      | refine k_lenD rfl rfl ?_
      | refine k_not rfl rfl ?_)
    | refine run_opsEnd ?_
    | refine run_region ?_
    | refine run_condT rfl (by first | rfl | assumption) ?_
    | refine run_condF rfl (by first | rfl | assumption) ?_
    | refine run_cond rfl (fun h => ?_) (fun h => ?_)
    | (refine k_guardY rfl rfl (by first | rfl | assumption) ?_; first
      | refine k_assignD rfl rfl ?_
      | refine k_moveD rfl rfl ?_
      | refine k_fieldAddrB rfl rfl rfl ?_
      | refine k_loadBD rfl rfl rfl (by first | rfl | (simp only [cellsD]; rfl)) ?_
      | refine k_bin2B rfl rfl rfl rfl ?_
      | refine k_boxW rfl rfl rfl (by first | rfl | (simp only [cellsD]; rfl)) ?_
      | refine k_call rfl (by kernel_rfl) rfl (by first | exact c) ?_
      | refine k_lenS rfl rfl (by kernel_rfl) ?_
      | refine k_lenD rfl rfl ?_
      | refine k_not rfl rfl ?_)
    | refine k_guardU rfl rfl rfl ?_
    | refine k_guardNT rfl rfl (by first | rfl | assumption) rfl ?_
    | refine k_guardNF rfl rfl (by first | rfl | assumption) rfl ?_
    | refine k_guardT rfl rfl rfl (fun h => ?_) (fun h => ?_)
    | refine k_guardF rfl rfl rfl (fun h => ?_) (fun h => ?_)
    | refine run_block ?_
    | refine run_blkEnd ?_
    | refine run_skip ?_
    | refine run_exit rfl ?_
    | refine run_retOk (resOk_tmp rfl rfl ?_)
    | refine run_retOk (resOk_tmp2 rfl rfl rfl ?_ ?_)
    | refine run_retOk (resOk_cell rfl rfl rfl (by first | rfl | (simp only [cellsD]; rfl)) ?_)
    | refine run_retOk (resOk_cellTmp rfl rfl rfl (by first | rfl | (simp only [cellsD]; rfl)) rfl ?_ ?_)
    | (first
      | refine k_assignD rfl rfl ?_
      | refine k_moveD rfl rfl ?_
      | refine k_fieldAddrB rfl rfl rfl ?_
      | refine k_loadBD rfl rfl rfl (by first | rfl | (simp only [cellsD]; rfl)) ?_
      | refine k_bin2B rfl rfl rfl rfl ?_
      | refine k_boxW rfl rfl rfl (by first | rfl | (simp only [cellsD]; rfl)) ?_
      | refine k_call rfl (by kernel_rfl) rfl (by first | exact c) ?_
      | refine k_lenS rfl rfl (by kernel_rfl) ?_
      | refine k_lenD rfl rfl ?_
      | refine k_not rfl rfl ?_)
    | refine run_drawC (by kernel_rfl) ?_
    | refine c_nil (And.intro (by kernel_rfl) ?_)
    | refine c_pick (d_assignD rfl rfl) ?_
    | refine c_pick (d_moveD rfl rfl) ?_
    | refine c_pick (d_fieldAddrB rfl rfl rfl) ?_
    | refine c_pick (d_loadBD rfl rfl rfl (by first | rfl | (simp only [cellsD]; rfl))) ?_
    | refine c_pick (d_bin2B rfl rfl rfl rfl) ?_
    | refine c_pick (d_boxW rfl rfl rfl (by first | rfl | (simp only [cellsD]; rfl))) ?_
    | refine c_pick (d_call rfl (by kernel_rfl) rfl (by first | exact c)) ?_
    | refine c_pick (d_lenS rfl rfl (by kernel_rfl)) ?_
    | refine c_pick (d_lenD rfl rfl) ?_
    | refine c_pick (d_not rfl rfl) ?_
    | refine c_passU rfl rfl ?_
    | refine c_passT rfl (by first | rfl | assumption) rfl ?_
    | refine c_passF rfl (by first | rfl | assumption) rfl ?_
    | refine c_pickY rfl (by first | rfl | assumption) (d_assignD rfl rfl) ?_
    | refine c_pickY rfl (by first | rfl | assumption) (d_moveD rfl rfl) ?_
    | refine c_pickY rfl (by first | rfl | assumption) (d_fieldAddrB rfl rfl rfl) ?_
    | refine c_pickY rfl (by first | rfl | assumption) (d_loadBD rfl rfl rfl (by first | rfl | (simp only [cellsD]; rfl))) ?_
    | refine c_pickY rfl (by first | rfl | assumption) (d_bin2B rfl rfl rfl rfl) ?_
    | refine c_pickY rfl (by first | rfl | assumption) (d_boxW rfl rfl rfl (by first | rfl | (simp only [cellsD]; rfl))) ?_
    | refine c_pickY rfl (by first | rfl | assumption) (d_call rfl (by kernel_rfl) rfl (by first | exact c)) ?_
    | refine c_pickY rfl (by first | rfl | assumption) (d_lenS rfl rfl (by kernel_rfl)) ?_
    | refine c_pickY rfl (by first | rfl | assumption) (d_lenD rfl rfl) ?_
    | refine c_pickY rfl (by first | rfl | assumption) (d_not rfl rfl) ?_
    | refine c_pickD rfl (by assumption) (d_assignD rfl rfl) ?_
    | refine c_pickD rfl (by assumption) (d_moveD rfl rfl) ?_
    | refine c_pickD rfl (by assumption) (d_fieldAddrB rfl rfl rfl) ?_
    | refine c_pickD rfl (by assumption) (d_loadBD rfl rfl rfl (by first | rfl | (simp only [cellsD]; rfl))) ?_
    | refine c_pickD rfl (by assumption) (d_bin2B rfl rfl rfl rfl) ?_
    | refine c_pickD rfl (by assumption) (d_boxW rfl rfl rfl (by first | rfl | (simp only [cellsD]; rfl))) ?_
    | refine c_pickD rfl (by assumption) (d_call rfl (by kernel_rfl) rfl (by first | exact c)) ?_
    | refine c_pickD rfl (by assumption) (d_lenS rfl rfl (by kernel_rfl)) ?_
    | refine c_pickD rfl (by assumption) (d_lenD rfl rfl) ?_
    | refine c_pickD rfl (by assumption) (d_not rfl rfl) ?_
    | refine c_splitT rfl rfl (fun h => ?_) (fun h => ?_)
    | refine c_splitF rfl rfl (fun h => ?_) (fun h => ?_)
    | fail)
        all_goals exact PLe.refl _
      | false =>
        refine ⟨true, ?_⟩
        refine pcall_of_run Try.func35 rfl Try.ntmps35 rfl (fun X => ?_)
        repeat' (first
    | refine run_seq ?_
    | (refine k_pick rfl ?_; first
      | refine k_assignD rfl rfl ?_
      | refine k_moveD rfl rfl ?_
      | refine k_fieldAddrB rfl rfl rfl ?_
      | refine k_loadBD rfl rfl rfl (by first | rfl | (simp only [cellsD]; rfl)) ?_
      | refine k_bin2B rfl rfl rfl rfl ?_
      | refine k_boxW rfl rfl rfl (by first | rfl | (simp only [cellsD]; rfl)) ?_
      | refine k_call rfl (by kernel_rfl) rfl (by first | exact c) ?_
      | refine k_lenS rfl rfl (by kernel_rfl) ?_
      | refine k_lenD rfl rfl ?_
      | refine k_not rfl rfl ?_)
    | refine run_opsEnd ?_
    | refine run_region ?_
    | refine run_condT rfl (by first | rfl | assumption) ?_
    | refine run_condF rfl (by first | rfl | assumption) ?_
    | refine run_cond rfl (fun h => ?_) (fun h => ?_)
    | (refine k_guardY rfl rfl (by first | rfl | assumption) ?_; first
      | refine k_assignD rfl rfl ?_
      | refine k_moveD rfl rfl ?_
      | refine k_fieldAddrB rfl rfl rfl ?_
      | refine k_loadBD rfl rfl rfl (by first | rfl | (simp only [cellsD]; rfl)) ?_
      | refine k_bin2B rfl rfl rfl rfl ?_
      | refine k_boxW rfl rfl rfl (by first | rfl | (simp only [cellsD]; rfl)) ?_
      | refine k_call rfl (by kernel_rfl) rfl (by first | exact c) ?_
      | refine k_lenS rfl rfl (by kernel_rfl) ?_
      | refine k_lenD rfl rfl ?_
      | refine k_not rfl rfl ?_)
    | refine k_guardU rfl rfl rfl ?_
    | refine k_guardNT rfl rfl (by first | rfl | assumption) rfl ?_
    | refine k_guardNF rfl rfl (by first | rfl | assumption) rfl ?_
    | refine k_guardT rfl rfl rfl (fun h => ?_) (fun h => ?_)
    | refine k_guardF rfl rfl rfl (fun h => ?_) (fun h => ?_)
    | refine run_block ?_
    | refine run_blkEnd ?_
    | refine run_skip ?_
    | refine run_exit rfl ?_
    | refine run_retOk (resOk_tmp rfl rfl ?_)
    | refine run_retOk (resOk_tmp2 rfl rfl rfl ?_ ?_)
    | refine run_retOk (resOk_cell rfl rfl rfl (by first | rfl | (simp only [cellsD]; rfl)) ?_)
    | refine run_retOk (resOk_cellTmp rfl rfl rfl (by first | rfl | (simp only [cellsD]; rfl)) rfl ?_ ?_)
    | (first
      | refine k_assignD rfl rfl ?_
      | refine k_moveD rfl rfl ?_
      | refine k_fieldAddrB rfl rfl rfl ?_
      | refine k_loadBD rfl rfl rfl (by first | rfl | (simp only [cellsD]; rfl)) ?_
      | refine k_bin2B rfl rfl rfl rfl ?_
      | refine k_boxW rfl rfl rfl (by first | rfl | (simp only [cellsD]; rfl)) ?_
      | refine k_call rfl (by kernel_rfl) rfl (by first | exact c) ?_
      | refine k_lenS rfl rfl (by kernel_rfl) ?_
      | refine k_lenD rfl rfl ?_
      | refine k_not rfl rfl ?_)
    | refine run_drawC (by kernel_rfl) ?_
    | refine c_nil (And.intro (by kernel_rfl) ?_)
    | refine c_pick (d_assignD rfl rfl) ?_
    | refine c_pick (d_moveD rfl rfl) ?_
    | refine c_pick (d_fieldAddrB rfl rfl rfl) ?_
    | refine c_pick (d_loadBD rfl rfl rfl (by first | rfl | (simp only [cellsD]; rfl))) ?_
    | refine c_pick (d_bin2B rfl rfl rfl rfl) ?_
    | refine c_pick (d_boxW rfl rfl rfl (by first | rfl | (simp only [cellsD]; rfl))) ?_
    | refine c_pick (d_call rfl (by kernel_rfl) rfl (by first | exact c)) ?_
    | refine c_pick (d_lenS rfl rfl (by kernel_rfl)) ?_
    | refine c_pick (d_lenD rfl rfl) ?_
    | refine c_pick (d_not rfl rfl) ?_
    | refine c_passU rfl rfl ?_
    | refine c_passT rfl (by first | rfl | assumption) rfl ?_
    | refine c_passF rfl (by first | rfl | assumption) rfl ?_
    | refine c_pickY rfl (by first | rfl | assumption) (d_assignD rfl rfl) ?_
    | refine c_pickY rfl (by first | rfl | assumption) (d_moveD rfl rfl) ?_
    | refine c_pickY rfl (by first | rfl | assumption) (d_fieldAddrB rfl rfl rfl) ?_
    | refine c_pickY rfl (by first | rfl | assumption) (d_loadBD rfl rfl rfl (by first | rfl | (simp only [cellsD]; rfl))) ?_
    | refine c_pickY rfl (by first | rfl | assumption) (d_bin2B rfl rfl rfl rfl) ?_
    | refine c_pickY rfl (by first | rfl | assumption) (d_boxW rfl rfl rfl (by first | rfl | (simp only [cellsD]; rfl))) ?_
    | refine c_pickY rfl (by first | rfl | assumption) (d_call rfl (by kernel_rfl) rfl (by first | exact c)) ?_
    | refine c_pickY rfl (by first | rfl | assumption) (d_lenS rfl rfl (by kernel_rfl)) ?_
    | refine c_pickY rfl (by first | rfl | assumption) (d_lenD rfl rfl) ?_
    | refine c_pickY rfl (by first | rfl | assumption) (d_not rfl rfl) ?_
    | refine c_pickD rfl (by assumption) (d_assignD rfl rfl) ?_
    | refine c_pickD rfl (by assumption) (d_moveD rfl rfl) ?_
    | refine c_pickD rfl (by assumption) (d_fieldAddrB rfl rfl rfl) ?_
    | refine c_pickD rfl (by assumption) (d_loadBD rfl rfl rfl (by first | rfl | (simp only [cellsD]; rfl))) ?_
    | refine c_pickD rfl (by assumption) (d_bin2B rfl rfl rfl rfl) ?_
    | refine c_pickD rfl (by assumption) (d_boxW rfl rfl rfl (by first | rfl | (simp only [cellsD]; rfl))) ?_
    | refine c_pickD rfl (by assumption) (d_call rfl (by kernel_rfl) rfl (by first | exact c)) ?_
    | refine c_pickD rfl (by assumption) (d_lenS rfl rfl (by kernel_rfl)) ?_
    | refine c_pickD rfl (by assumption) (d_lenD rfl rfl) ?_
    | refine c_pickD rfl (by assumption) (d_not rfl rfl) ?_
    | refine c_splitT rfl rfl (fun h => ?_) (fun h => ?_)
    | refine c_splitF rfl rfl (fun h => ?_) (fun h => ?_)
    | fail)
        all_goals exact PLe.refl _
theorem cmpE_rk {x y : EV} (h : rkE x ≠ rkE y) : cmpPE (toPE x) (toPE y) = cmpI (rkE x) (rkE y) := by
  unfold cmpPE
  rw [rk_to, rk_to, lx_pos (fun e => h (cmpI_zero.1 e))]
theorem eqE_rk {x y : EV} (h : rkE x ≠ rkE y) : eqPE (toPE x) (toPE y) = false := eqPE_rk (by rw [rk_to, rk_to]; exact h)
theorem cmpI_neg (a b : Int) : decide (cmpI a b < 0) = decide (a < b) := by
  unfold cmpI
  by_cases h : a < b
  · rw [if_pos h]; simp [h]
  · rw [if_neg h]
    split <;> simp [h]
set_option maxHeartbeats 8000000 in
theorem lawEK_p (x y : EV) : PCall Try.prog 9 [pdE x, pdE y] (.val (.bool true)) := by
  obtain ⟨b1, c1⟩ := fits13_p x
  obtain ⟨b2, c2⟩ := fits13_p y
  have c3 := cleanE_p x
  have c4 := cleanE_p y
  have k1 := rk_clean x
  have k2 := rk_clean y
  have c5 := sInts_p (rkE x) (rkE y)
  have c6 := implCmpE_p x y
  have c7 := implLessE_p x y
  have c8 := implEqE_p x y
  unfold pdE at *
  rw [k1] at c3
  rw [k2] at c4
  cases b1 with
  | false =>
    refine pcall_of_run Try.func9 rfl Try.ntmps9 rfl (fun X => ?_)
    repeat' (first
    | refine run_seq ?_
    | (refine k_pick rfl ?_; first
      | refine k_assignD rfl rfl ?_
      | refine k_moveD rfl rfl ?_
      | refine k_loadW rfl rfl rfl (by first | rfl | (simp only [cellsD]; rfl)) ?_
      | refine k_loadBD rfl rfl rfl (by first | rfl | (simp only [cellsD]; rfl)) ?_
      | refine k_pickT rfl rfl (by first | rfl | assumption) rfl ?_
      | refine k_pickF rfl rfl (by first | rfl | assumption) rfl ?_
      | refine k_boxW rfl rfl rfl (by first | rfl | (simp only [cellsD]; rfl)) ?_
      | refine k_call rfl (by kernel_rfl) rfl (by first | exact c1 | exact c2) ?_
      | refine k_not rfl rfl ?_)
    | refine run_opsEnd ?_
    | refine run_region ?_
    | refine run_condT rfl (by first | rfl | assumption) ?_
    | refine run_condF rfl (by first | rfl | assumption) ?_
    | refine run_cond rfl (fun h => ?_) (fun h => ?_)
    | (refine k_guardY rfl rfl (by first | rfl | assumption) ?_; first
      | refine k_assignD rfl rfl ?_
      | refine k_moveD rfl rfl ?_
      | refine k_loadW rfl rfl rfl (by first | rfl | (simp only [cellsD]; rfl)) ?_
      | refine k_loadBD rfl rfl rfl (by first | rfl | (simp only [cellsD]; rfl)) ?_
      | refine k_pickT rfl rfl (by first | rfl | assumption) rfl ?_
      | refine k_pickF rfl rfl (by first | rfl | assumption) rfl ?_
      | refine k_boxW rfl rfl rfl (by first | rfl | (simp only [cellsD]; rfl)) ?_
      | refine k_call rfl (by kernel_rfl) rfl (by first | exact c1 | exact c2) ?_
      | refine k_not rfl rfl ?_)
    | refine k_guardU rfl rfl rfl ?_
    | refine k_guardNT rfl rfl (by first | rfl | assumption) rfl ?_
    | refine k_guardNF rfl rfl (by first | rfl | assumption) rfl ?_
    | refine k_guardT rfl rfl rfl (fun h => ?_) (fun h => ?_)
    | refine k_guardF rfl rfl rfl (fun h => ?_) (fun h => ?_)
    | refine run_block ?_
    | refine run_blkEnd ?_
    | refine run_skip ?_
    | refine run_exit rfl ?_
    | refine run_retOk (resOk_tmp rfl rfl ?_)
    | refine run_retOk (resOk_tmp2 rfl rfl rfl ?_ ?_)
    | refine run_retOk (resOk_cell rfl rfl rfl (by first | rfl | (simp only [cellsD]; rfl)) ?_)
    | refine run_retOk (resOk_cellTmp rfl rfl rfl (by first | rfl | (simp only [cellsD]; rfl)) rfl ?_ ?_)
    | (first
      | refine k_assignD rfl rfl ?_
      | refine k_moveD rfl rfl ?_
      | refine k_loadW rfl rfl rfl (by first | rfl | (simp only [cellsD]; rfl)) ?_
      | refine k_loadBD rfl rfl rfl (by first | rfl | (simp only [cellsD]; rfl)) ?_
      | refine k_pickT rfl rfl (by first | rfl | assumption) rfl ?_
      | refine k_pickF rfl rfl (by first | rfl | assumption) rfl ?_
      | refine k_boxW rfl rfl rfl (by first | rfl | (simp only [cellsD]; rfl)) ?_
      | refine k_call rfl (by kernel_rfl) rfl (by first | exact c1 | exact c2) ?_
      | refine k_not rfl rfl ?_)
    | refine run_drawC (by kernel_rfl) ?_
    | refine c_nil (And.intro (by kernel_rfl) ?_)
    | refine c_pick (d_assignD rfl rfl) ?_
    | refine c_pick (d_moveD rfl rfl) ?_
    | refine c_pick (d_loadW rfl rfl rfl (by first | rfl | (simp only [cellsD]; rfl))) ?_
    | refine c_pick (d_loadBD rfl rfl rfl (by first | rfl | (simp only [cellsD]; rfl))) ?_
    | refine c_pick (d_pickT rfl rfl (by first | rfl | assumption) rfl) ?_
    | refine c_pick (d_pickF rfl rfl (by first | rfl | assumption) rfl) ?_
    | refine c_pick (d_boxW rfl rfl rfl (by first | rfl | (simp only [cellsD]; rfl))) ?_
    | refine c_pick (d_call rfl (by kernel_rfl) rfl (by first | exact c1 | exact c2)) ?_
    | refine c_pick (d_not rfl rfl) ?_
    | refine c_passU rfl rfl ?_
    | refine c_passT rfl (by first | rfl | assumption) rfl ?_
    | refine c_passF rfl (by first | rfl | assumption) rfl ?_
    | refine c_pickY rfl (by first | rfl | assumption) (d_assignD rfl rfl) ?_
    | refine c_pickY rfl (by first | rfl | assumption) (d_moveD rfl rfl) ?_
    | refine c_pickY rfl (by first | rfl | assumption) (d_loadW rfl rfl rfl (by first | rfl | (simp only [cellsD]; rfl))) ?_
    | refine c_pickY rfl (by first | rfl | assumption) (d_loadBD rfl rfl rfl (by first | rfl | (simp only [cellsD]; rfl))) ?_
    | refine c_pickY rfl (by first | rfl | assumption) (d_pickT rfl rfl (by first | rfl | assumption) rfl) ?_
    | refine c_pickY rfl (by first | rfl | assumption) (d_pickF rfl rfl (by first | rfl | assumption) rfl) ?_
    | refine c_pickY rfl (by first | rfl | assumption) (d_boxW rfl rfl rfl (by first | rfl | (simp only [cellsD]; rfl))) ?_
    | refine c_pickY rfl (by first | rfl | assumption) (d_call rfl (by kernel_rfl) rfl (by first | exact c1 | exact c2)) ?_
    | refine c_pickY rfl (by first | rfl | assumption) (d_not rfl rfl) ?_
    | refine c_pickD rfl (by assumption) (d_assignD rfl rfl) ?_
    | refine c_pickD rfl (by assumption) (d_moveD rfl rfl) ?_
    | refine c_pickD rfl (by assumption) (d_loadW rfl rfl rfl (by first | rfl | (simp only [cellsD]; rfl))) ?_
    | refine c_pickD rfl (by assumption) (d_loadBD rfl rfl rfl (by first | rfl | (simp only [cellsD]; rfl))) ?_
    | refine c_pickD rfl (by assumption) (d_pickT rfl rfl (by first | rfl | assumption) rfl) ?_
    | refine c_pickD rfl (by assumption) (d_pickF rfl rfl (by first | rfl | assumption) rfl) ?_
    | refine c_pickD rfl (by assumption) (d_boxW rfl rfl rfl (by first | rfl | (simp only [cellsD]; rfl))) ?_
    | refine c_pickD rfl (by assumption) (d_call rfl (by kernel_rfl) rfl (by first | exact c1 | exact c2)) ?_
    | refine c_pickD rfl (by assumption) (d_not rfl rfl) ?_
    | refine c_splitT rfl rfl (fun h => ?_) (fun h => ?_)
    | refine c_splitF rfl rfl (fun h => ?_) (fun h => ?_)
    | fail)
    all_goals exact PLe.refl _
  | true =>
  cases b2 with
  | false =>
    refine pcall_of_run Try.func9 rfl Try.ntmps9 rfl (fun X => ?_)
    repeat' (first
    | refine run_seq ?_
    | (refine k_pick rfl ?_; first
      | refine k_assignD rfl rfl ?_
      | refine k_moveD rfl rfl ?_
      | refine k_loadW rfl rfl rfl (by first | rfl | (simp only [cellsD]; rfl)) ?_
      | refine k_loadBD rfl rfl rfl (by first | rfl | (simp only [cellsD]; rfl)) ?_
      | refine k_pickT rfl rfl (by first | rfl | assumption) rfl ?_
      | refine k_pickF rfl rfl (by first | rfl | assumption) rfl ?_
      | refine k_boxW rfl rfl rfl (by first | rfl | (simp only [cellsD]; rfl)) ?_
      | refine k_call rfl (by kernel_rfl) rfl (by first | exact c1 | exact c2) ?_
      | refine k_not rfl rfl ?_)
    | refine run_opsEnd ?_
    | refine run_region ?_
    | refine run_condT rfl (by first | rfl | assumption) ?_
    | refine run_condF rfl (by first | rfl | assumption) ?_
    | refine run_cond rfl (fun h => ?_) (fun h => ?_)
    | (refine k_guardY rfl rfl (by first | rfl | assumption) ?_; first
      | refine k_assignD rfl rfl ?_
      | refine k_moveD rfl rfl ?_
      | refine k_loadW rfl rfl rfl (by first | rfl | (simp only [cellsD]; rfl)) ?_
      | refine k_loadBD rfl rfl rfl (by first | rfl | (simp only [cellsD]; rfl)) ?_
      | refine k_pickT rfl rfl (by first | rfl | assumption) rfl ?_
      | refine k_pickF rfl rfl (by first | rfl | assumption) rfl ?_
      | refine k_boxW rfl rfl rfl (by first | rfl | (simp only [cellsD]; rfl)) ?_
      | refine k_call rfl (by kernel_rfl) rfl (by first | exact c1 | exact c2) ?_
      | refine k_not rfl rfl ?_)
    | refine k_guardU rfl rfl rfl ?_
    | refine k_guardNT rfl rfl (by first | rfl | assumption) rfl ?_
    | refine k_guardNF rfl rfl (by first | rfl | assumption) rfl ?_
    | refine k_guardT rfl rfl rfl (fun h => ?_) (fun h => ?_)
    | refine k_guardF rfl rfl rfl (fun h => ?_) (fun h => ?_)
    | refine run_block ?_
    | refine run_blkEnd ?_
    | refine run_skip ?_
    | refine run_exit rfl ?_
    | refine run_retOk (resOk_tmp rfl rfl ?_)
    | refine run_retOk (resOk_tmp2 rfl rfl rfl ?_ ?_)
    | refine run_retOk (resOk_cell rfl rfl rfl (by first | rfl | (simp only [cellsD]; rfl)) ?_)
    | refine run_retOk (resOk_cellTmp rfl rfl rfl (by first | rfl | (simp only [cellsD]; rfl)) rfl ?_ ?_)
    | (first
      | refine k_assignD rfl rfl ?_
      | refine k_moveD rfl rfl ?_
      | refine k_loadW rfl rfl rfl (by first | rfl | (simp only [cellsD]; rfl)) ?_
      | refine k_loadBD rfl rfl rfl (by first | rfl | (simp only [cellsD]; rfl)) ?_
      | refine k_pickT rfl rfl (by first | rfl | assumption) rfl ?_
      | refine k_pickF rfl rfl (by first | rfl | assumption) rfl ?_
      | refine k_boxW rfl rfl rfl (by first | rfl | (simp only [cellsD]; rfl)) ?_
      | refine k_call rfl (by kernel_rfl) rfl (by first | exact c1 | exact c2) ?_
      | refine k_not rfl rfl ?_)
    | refine run_drawC (by kernel_rfl) ?_
    | refine c_nil (And.intro (by kernel_rfl) ?_)
    | refine c_pick (d_assignD rfl rfl) ?_
    | refine c_pick (d_moveD rfl rfl) ?_
    | refine c_pick (d_loadW rfl rfl rfl (by first | rfl | (simp only [cellsD]; rfl))) ?_
    | refine c_pick (d_loadBD rfl rfl rfl (by first | rfl | (simp only [cellsD]; rfl))) ?_
    | refine c_pick (d_pickT rfl rfl (by first | rfl | assumption) rfl) ?_
    | refine c_pick (d_pickF rfl rfl (by first | rfl | assumption) rfl) ?_
    | refine c_pick (d_boxW rfl rfl rfl (by first | rfl | (simp only [cellsD]; rfl))) ?_
    | refine c_pick (d_call rfl (by kernel_rfl) rfl (by first | exact c1 | exact c2)) ?_
    | refine c_pick (d_not rfl rfl) ?_
    | refine c_passU rfl rfl ?_
    | refine c_passT rfl (by first | rfl | assumption) rfl ?_
    | refine c_passF rfl (by first | rfl | assumption) rfl ?_
    | refine c_pickY rfl (by first | rfl | assumption) (d_assignD rfl rfl) ?_
    | refine c_pickY rfl (by first | rfl | assumption) (d_moveD rfl rfl) ?_
    | refine c_pickY rfl (by first | rfl | assumption) (d_loadW rfl rfl rfl (by first | rfl | (simp only [cellsD]; rfl))) ?_
    | refine c_pickY rfl (by first | rfl | assumption) (d_loadBD rfl rfl rfl (by first | rfl | (simp only [cellsD]; rfl))) ?_
    | refine c_pickY rfl (by first | rfl | assumption) (d_pickT rfl rfl (by first | rfl | assumption) rfl) ?_
    | refine c_pickY rfl (by first | rfl | assumption) (d_pickF rfl rfl (by first | rfl | assumption) rfl) ?_
    | refine c_pickY rfl (by first | rfl | assumption) (d_boxW rfl rfl rfl (by first | rfl | (simp only [cellsD]; rfl))) ?_
    | refine c_pickY rfl (by first | rfl | assumption) (d_call rfl (by kernel_rfl) rfl (by first | exact c1 | exact c2)) ?_
    | refine c_pickY rfl (by first | rfl | assumption) (d_not rfl rfl) ?_
    | refine c_pickD rfl (by assumption) (d_assignD rfl rfl) ?_
    | refine c_pickD rfl (by assumption) (d_moveD rfl rfl) ?_
    | refine c_pickD rfl (by assumption) (d_loadW rfl rfl rfl (by first | rfl | (simp only [cellsD]; rfl))) ?_
    | refine c_pickD rfl (by assumption) (d_loadBD rfl rfl rfl (by first | rfl | (simp only [cellsD]; rfl))) ?_
    | refine c_pickD rfl (by assumption) (d_pickT rfl rfl (by first | rfl | assumption) rfl) ?_
    | refine c_pickD rfl (by assumption) (d_pickF rfl rfl (by first | rfl | assumption) rfl) ?_
    | refine c_pickD rfl (by assumption) (d_boxW rfl rfl rfl (by first | rfl | (simp only [cellsD]; rfl))) ?_
    | refine c_pickD rfl (by assumption) (d_call rfl (by kernel_rfl) rfl (by first | exact c1 | exact c2)) ?_
    | refine c_pickD rfl (by assumption) (d_not rfl rfl) ?_
    | refine c_splitT rfl rfl (fun h => ?_) (fun h => ?_)
    | refine c_splitF rfl rfl (fun h => ?_) (fun h => ?_)
    | fail)
    all_goals exact PLe.refl _
  | true =>
  by_cases hk : rkE x = rkE y
  · have g1 : decide (rkE x = rkE y) = true := decide_eq_true hk
    refine pcall_of_run Try.func9 rfl Try.ntmps9 rfl (fun X => ?_)
    repeat' (first
    | refine run_seq ?_
    | (refine k_pick rfl ?_; first
      | refine k_assignD rfl rfl ?_
      | refine k_moveD rfl rfl ?_
      | refine k_loadW rfl rfl rfl (by first | rfl | (simp only [cellsD]; rfl)) ?_
      | refine k_loadBD rfl rfl rfl (by first | rfl | (simp only [cellsD]; rfl)) ?_
      | refine k_bin2B rfl rfl rfl rfl ?_
      | refine k_pickT rfl rfl (by first | rfl | assumption) rfl ?_
      | refine k_pickF rfl rfl (by first | rfl | assumption) rfl ?_
      | refine k_boxW rfl rfl rfl (by first | rfl | (simp only [cellsD]; rfl)) ?_
      | refine k_call rfl (by kernel_rfl) rfl (by first | exact c1 | exact c2 | exact c3 | exact c4) ?_
      | refine k_not rfl rfl ?_
      | refine k_fieldD rfl rfl rfl (by first | rfl | (simp only [cellsD]; rfl)) ?_)
    | refine run_opsEnd ?_
    | refine run_region ?_
    | refine run_condT rfl (by first | rfl | assumption) ?_
    | refine run_condF rfl (by first | rfl | assumption) ?_
    | refine run_cond rfl (fun h => ?_) (fun h => ?_)
    | (refine k_guardY rfl rfl (by first | rfl | assumption) ?_; first
      | refine k_assignD rfl rfl ?_
      | refine k_moveD rfl rfl ?_
      | refine k_loadW rfl rfl rfl (by first | rfl | (simp only [cellsD]; rfl)) ?_
      | refine k_loadBD rfl rfl rfl (by first | rfl | (simp only [cellsD]; rfl)) ?_
      | refine k_bin2B rfl rfl rfl rfl ?_
      | refine k_pickT rfl rfl (by first | rfl | assumption) rfl ?_
      | refine k_pickF rfl rfl (by first | rfl | assumption) rfl ?_
      | refine k_boxW rfl rfl rfl (by first | rfl | (simp only [cellsD]; rfl)) ?_
      | refine k_call rfl (by kernel_rfl) rfl (by first | exact c1 | exact c2 | exact c3 | exact c4) ?_
      | refine k_not rfl rfl ?_
      | refine k_fieldD rfl rfl rfl (by first | rfl | (simp only [cellsD]; rfl)) ?_)
    | refine k_guardU rfl rfl rfl ?_
    | refine k_guardNT rfl rfl (by first | rfl | assumption) rfl ?_
    | refine k_guardNF rfl rfl (by first | rfl | assumption) rfl ?_
    | refine k_guardT rfl rfl rfl (fun h => ?_) (fun h => ?_)
    | refine k_guardF rfl rfl rfl (fun h => ?_) (fun h => ?_)
    | refine run_block ?_
    | refine run_blkEnd ?_
    | refine run_skip ?_
    | refine run_exit rfl ?_
    | refine run_retOk (resOk_tmp rfl rfl ?_)
    | refine run_retOk (resOk_tmp2 rfl rfl rfl ?_ ?_)
    | refine run_retOk (resOk_cell rfl rfl rfl (by first | rfl | (simp only [cellsD]; rfl)) ?_)
    | refine run_retOk (resOk_cellTmp rfl rfl rfl (by first | rfl | (simp only [cellsD]; rfl)) rfl ?_ ?_)
    | (first
      | refine k_assignD rfl rfl ?_
      | refine k_moveD rfl rfl ?_
      | refine k_loadW rfl rfl rfl (by first | rfl | (simp only [cellsD]; rfl)) ?_
      | refine k_loadBD rfl rfl rfl (by first | rfl | (simp only [cellsD]; rfl)) ?_
      | refine k_bin2B rfl rfl rfl rfl ?_
      | refine k_pickT rfl rfl (by first | rfl | assumption) rfl ?_
      | refine k_pickF rfl rfl (by first | rfl | assumption) rfl ?_
      | refine k_boxW rfl rfl rfl (by first | rfl | (simp only [cellsD]; rfl)) ?_
      | refine k_call rfl (by kernel_rfl) rfl (by first | exact c1 | exact c2 | exact c3 | exact c4) ?_
      | refine k_not rfl rfl ?_
      | refine k_fieldD rfl rfl rfl (by first | rfl | (simp only [cellsD]; rfl)) ?_)
    | refine run_drawC (by kernel_rfl) ?_
    | refine c_nil (And.intro (by kernel_rfl) ?_)
    | refine c_pick (d_assignD rfl rfl) ?_
    | refine c_pick (d_moveD rfl rfl) ?_
    | refine c_pick (d_loadW rfl rfl rfl (by first | rfl | (simp only [cellsD]; rfl))) ?_
    | refine c_pick (d_loadBD rfl rfl rfl (by first | rfl | (simp only [cellsD]; rfl))) ?_
    | refine c_pick (d_bin2B rfl rfl rfl rfl) ?_
    | refine c_pick (d_pickT rfl rfl (by first | rfl | assumption) rfl) ?_
    | refine c_pick (d_pickF rfl rfl (by first | rfl | assumption) rfl) ?_
    | refine c_pick (d_boxW rfl rfl rfl (by first | rfl | (simp only [cellsD]; rfl))) ?_
    | refine c_pick (d_call rfl (by kernel_rfl) rfl (by first | exact c1 | exact c2 | exact c3 | exact c4)) ?_
    | refine c_pick (d_not rfl rfl) ?_
    | refine c_pick (d_fieldD rfl rfl rfl (by first | rfl | (simp only [cellsD]; rfl))) ?_
    | refine c_passU rfl rfl ?_
    | refine c_passT rfl (by first | rfl | assumption) rfl ?_
    | refine c_passF rfl (by first | rfl | assumption) rfl ?_
    | refine c_pickY rfl (by first | rfl | assumption) (d_assignD rfl rfl) ?_
    | refine c_pickY rfl (by first | rfl | assumption) (d_moveD rfl rfl) ?_
    | refine c_pickY rfl (by first | rfl | assumption) (d_loadW rfl rfl rfl (by first | rfl | (simp only [cellsD]; rfl))) ?_
    | refine c_pickY rfl (by first | rfl | assumption) (d_loadBD rfl rfl rfl (by first | rfl | (simp only [cellsD]; rfl))) ?_
    | refine c_pickY rfl (by first | rfl | assumption) (d_bin2B rfl rfl rfl rfl) ?_
    | refine c_pickY rfl (by first | rfl | assumption) (d_pickT rfl rfl (by first | rfl | assumption) rfl) ?_
    | refine c_pickY rfl (by first | rfl | assumption) (d_pickF rfl rfl (by first | rfl | assumption) rfl) ?_
    | refine c_pickY rfl (by first | rfl | assumption) (d_boxW rfl rfl rfl (by first | rfl | (simp only [cellsD]; rfl))) ?_
    | refine c_pickY rfl (by first | rfl | assumption) (d_call rfl (by kernel_rfl) rfl (by first | exact c1 | exact c2 | exact c3 | exact c4)) ?_
    | refine c_pickY rfl (by first | rfl | assumption) (d_not rfl rfl) ?_
    | refine c_pickY rfl (by first | rfl | assumption) (d_fieldD rfl rfl rfl (by first | rfl | (simp only [cellsD]; rfl))) ?_
    | refine c_pickD rfl (by assumption) (d_assignD rfl rfl) ?_
    | refine c_pickD rfl (by assumption) (d_moveD rfl rfl) ?_
    | refine c_pickD rfl (by assumption) (d_loadW rfl rfl rfl (by first | rfl | (simp only [cellsD]; rfl))) ?_
    | refine c_pickD rfl (by assumption) (d_loadBD rfl rfl rfl (by first | rfl | (simp only [cellsD]; rfl))) ?_
    | refine c_pickD rfl (by assumption) (d_bin2B rfl rfl rfl rfl) ?_
    | refine c_pickD rfl (by assumption) (d_pickT rfl rfl (by first | rfl | assumption) rfl) ?_
    | refine c_pickD rfl (by assumption) (d_pickF rfl rfl (by first | rfl | assumption) rfl) ?_
    | refine c_pickD rfl (by assumption) (d_boxW rfl rfl rfl (by first | rfl | (simp only [cellsD]; rfl))) ?_
    | refine c_pickD rfl (by assumption) (d_call rfl (by kernel_rfl) rfl (by first | exact c1 | exact c2 | exact c3 | exact c4)) ?_
    | refine c_pickD rfl (by assumption) (d_not rfl rfl) ?_
    | refine c_pickD rfl (by assumption) (d_fieldD rfl rfl rfl (by first | rfl | (simp only [cellsD]; rfl))) ?_
    | refine c_splitT rfl rfl (fun h => ?_) (fun h => ?_)
    | refine c_splitF rfl rfl (fun h => ?_) (fun h => ?_)
    | fail)
    all_goals exact PLe.refl _
  · have g1 : decide (rkE x = rkE y) = false := decide_eq_false hk
    rw [cmpE_rk hk] at c6 c7
    rw [cmpI_neg] at c7
    rw [eqE_rk hk] at c8
    clear k1 k2 hk
    generalize rkE x = k at *
    generalize rkE y = l at *
    generalize cmpI k l = c at *
    have g2 : decide (c = c) = true := decide_eq_true rfl
    have g3 : (decide (k < l) == decide (k < l)) = true := by simp
    refine pcall_of_run Try.func9 rfl Try.ntmps9 rfl (fun X => ?_)
    repeat' (first
    | refine run_seq ?_
    | (refine k_pick rfl ?_; first
      | refine k_assignD rfl rfl ?_
      | refine k_moveD rfl rfl ?_
      | refine k_loadW rfl rfl rfl (by first | rfl | (simp only [cellsD]; rfl)) ?_
      | refine k_loadBD rfl rfl rfl (by first | rfl | (simp only [cellsD]; rfl)) ?_
      | refine k_bin2B rfl rfl rfl rfl ?_
      | refine k_pickT rfl rfl (by first | rfl | assumption) rfl ?_
      | refine k_pickF rfl rfl (by first | rfl | assumption) rfl ?_
      | refine k_boxW rfl rfl rfl (by first | rfl | (simp only [cellsD]; rfl)) ?_
      | refine k_call rfl (by kernel_rfl) rfl (by first | exact c1 | exact c2 | exact c3 | exact c4 | exact c5 | exact c6 | exact c7 | exact c8) ?_
      | refine k_cmpBool rfl rfl rfl (by kernel_rfl) rfl ?_
      | refine k_not rfl rfl ?_
      | refine k_fieldD rfl rfl rfl (by first | rfl | (simp only [cellsD]; rfl)) ?_)
    | refine run_opsEnd ?_
    | refine run_region ?_
    | refine run_condT rfl (by first | rfl | assumption) ?_
    | refine run_condF rfl (by first | rfl | assumption) ?_
    | refine run_cond rfl (fun h => ?_) (fun h => ?_)
    | (refine k_guardY rfl rfl (by first | rfl | assumption) ?_; first
      | refine k_assignD rfl rfl ?_
      | refine k_moveD rfl rfl ?_
      | refine k_loadW rfl rfl rfl (by first | rfl | (simp only [cellsD]; rfl)) ?_
      | refine k_loadBD rfl rfl rfl (by first | rfl | (simp only [cellsD]; rfl)) ?_
      | refine k_bin2B rfl rfl rfl rfl ?_
      | refine k_pickT rfl rfl (by first | rfl | assumption) rfl ?_
      | refine k_pickF rfl rfl (by first | rfl | assumption) rfl ?_
      | refine k_boxW rfl rfl rfl (by first | rfl | (simp only [cellsD]; rfl)) ?_
      | refine k_call rfl (by kernel_rfl) rfl (by first | exact c1 | exact c2 | exact c3 | exact c4 | exact c5 | exact c6 | exact c7 | exact c8) ?_
      | refine k_cmpBool rfl rfl rfl (by kernel_rfl) rfl ?_
      | refine k_not rfl rfl ?_
      | refine k_fieldD rfl rfl rfl (by first | rfl | (simp only [cellsD]; rfl)) ?_)
    | refine k_guardU rfl rfl rfl ?_
    | refine k_guardNT rfl rfl (by first | rfl | assumption) rfl ?_
    | refine k_guardNF rfl rfl (by first | rfl | assumption) rfl ?_
    | refine k_guardT rfl rfl rfl (fun h => ?_) (fun h => ?_)
    | refine k_guardF rfl rfl rfl (fun h => ?_) (fun h => ?_)
    | refine run_block ?_
    | refine run_blkEnd ?_
    | refine run_skip ?_
    | refine run_exit rfl ?_
    | refine run_retOk (resOk_tmp rfl rfl ?_)
    | refine run_retOk (resOk_tmp2 rfl rfl rfl ?_ ?_)
    | refine run_retOk (resOk_cell rfl rfl rfl (by first | rfl | (simp only [cellsD]; rfl)) ?_)
    | refine run_retOk (resOk_cellTmp rfl rfl rfl (by first | rfl | (simp only [cellsD]; rfl)) rfl ?_ ?_)
    | (first
      | refine k_assignD rfl rfl ?_
      | refine k_moveD rfl rfl ?_
      | refine k_loadW rfl rfl rfl (by first | rfl | (simp only [cellsD]; rfl)) ?_
      | refine k_loadBD rfl rfl rfl (by first | rfl | (simp only [cellsD]; rfl)) ?_
      | refine k_bin2B rfl rfl rfl rfl ?_
      | refine k_pickT rfl rfl (by first | rfl | assumption) rfl ?_
      | refine k_pickF rfl rfl (by first | rfl | assumption) rfl ?_
      | refine k_boxW rfl rfl rfl (by first | rfl | (simp only [cellsD]; rfl)) ?_
      | refine k_call rfl (by kernel_rfl) rfl (by first | exact c1 | exact c2 | exact c3 | exact c4 | exact c5 | exact c6 | exact c7 | exact c8) ?_
      | refine k_cmpBool rfl rfl rfl (by kernel_rfl) rfl ?_
      | refine k_not rfl rfl ?_
      | refine k_fieldD rfl rfl rfl (by first | rfl | (simp only [cellsD]; rfl)) ?_)
    | refine run_drawC (by kernel_rfl) ?_
    | refine c_nil (And.intro (by kernel_rfl) ?_)
    | refine c_pick (d_assignD rfl rfl) ?_
    | refine c_pick (d_moveD rfl rfl) ?_
    | refine c_pick (d_loadW rfl rfl rfl (by first | rfl | (simp only [cellsD]; rfl))) ?_
    | refine c_pick (d_loadBD rfl rfl rfl (by first | rfl | (simp only [cellsD]; rfl))) ?_
    | refine c_pick (d_bin2B rfl rfl rfl rfl) ?_
    | refine c_pick (d_pickT rfl rfl (by first | rfl | assumption) rfl) ?_
    | refine c_pick (d_pickF rfl rfl (by first | rfl | assumption) rfl) ?_
    | refine c_pick (d_boxW rfl rfl rfl (by first | rfl | (simp only [cellsD]; rfl))) ?_
    | refine c_pick (d_call rfl (by kernel_rfl) rfl (by first | exact c1 | exact c2 | exact c3 | exact c4 | exact c5 | exact c6 | exact c7 | exact c8)) ?_
    | refine c_pick (d_cmpBool rfl rfl rfl (by kernel_rfl) rfl) ?_
    | refine c_pick (d_not rfl rfl) ?_
    | refine c_pick (d_fieldD rfl rfl rfl (by first | rfl | (simp only [cellsD]; rfl))) ?_
    | refine c_passU rfl rfl ?_
    | refine c_passT rfl (by first | rfl | assumption) rfl ?_
    | refine c_passF rfl (by first | rfl | assumption) rfl ?_
    | refine c_pickY rfl (by first | rfl | assumption) (d_assignD rfl rfl) ?_
    | refine c_pickY rfl (by first | rfl | assumption) (d_moveD rfl rfl) ?_
    | refine c_pickY rfl (by first | rfl | assumption) (d_loadW rfl rfl rfl (by first | rfl | (simp only [cellsD]; rfl))) ?_
    | refine c_pickY rfl (by first | rfl | assumption) (d_loadBD rfl rfl rfl (by first | rfl | (simp only [cellsD]; rfl))) ?_
    | refine c_pickY rfl (by first | rfl | assumption) (d_bin2B rfl rfl rfl rfl) ?_
    | refine c_pickY rfl (by first | rfl | assumption) (d_pickT rfl rfl (by first | rfl | assumption) rfl) ?_
    | refine c_pickY rfl (by first | rfl | assumption) (d_pickF rfl rfl (by first | rfl | assumption) rfl) ?_
    | refine c_pickY rfl (by first | rfl | assumption) (d_boxW rfl rfl rfl (by first | rfl | (simp only [cellsD]; rfl))) ?_
    | refine c_pickY rfl (by first | rfl | assumption) (d_call rfl (by kernel_rfl) rfl (by first | exact c1 | exact c2 | exact c3 | exact c4 | exact c5 | exact c6 | exact c7 | exact c8)) ?_
    | refine c_pickY rfl (by first | rfl | assumption) (d_cmpBool rfl rfl rfl (by kernel_rfl) rfl) ?_
    | refine c_pickY rfl (by first | rfl | assumption) (d_not rfl rfl) ?_
    | refine c_pickY rfl (by first | rfl | assumption) (d_fieldD rfl rfl rfl (by first | rfl | (simp only [cellsD]; rfl))) ?_
    | refine c_pickD rfl (by assumption) (d_assignD rfl rfl) ?_
    | refine c_pickD rfl (by assumption) (d_moveD rfl rfl) ?_
    | refine c_pickD rfl (by assumption) (d_loadW rfl rfl rfl (by first | rfl | (simp only [cellsD]; rfl))) ?_
    | refine c_pickD rfl (by assumption) (d_loadBD rfl rfl rfl (by first | rfl | (simp only [cellsD]; rfl))) ?_
    | refine c_pickD rfl (by assumption) (d_bin2B rfl rfl rfl rfl) ?_
    | refine c_pickD rfl (by assumption) (d_pickT rfl rfl (by first | rfl | assumption) rfl) ?_
    | refine c_pickD rfl (by assumption) (d_pickF rfl rfl (by first | rfl | assumption) rfl) ?_
    | refine c_pickD rfl (by assumption) (d_boxW rfl rfl rfl (by first | rfl | (simp only [cellsD]; rfl))) ?_
    | refine c_pickD rfl (by assumption) (d_call rfl (by kernel_rfl) rfl (by first | exact c1 | exact c2 | exact c3 | exact c4 | exact c5 | exact c6 | exact c7 | exact c8)) ?_
    | refine c_pickD rfl (by assumption) (d_cmpBool rfl rfl rfl (by kernel_rfl) rfl) ?_
    | refine c_pickD rfl (by assumption) (d_not rfl rfl) ?_
    | refine c_pickD rfl (by assumption) (d_fieldD rfl rfl rfl (by first | rfl | (simp only [cellsD]; rfl))) ?_
    | refine c_splitT rfl rfl (fun h => ?_) (fun h => ?_)
    | refine c_splitF rfl rfl (fun h => ?_) (fun h => ?_)
    | fail)
    all_goals exact PLe.refl _
end Go.Proofs.Ytbbacpdbbmjblaa
end
section
namespace Go.Proofs.Ytbbacpdbbmjblaa
open Go.ChangeShapes Go.WideShapes Go.ChangeAt Go.RowKit
theorem trodFloat {H : Type} {enc : TypeId × Value → H} {P : Program} {w : World} {base : Nat} {spare : Nat → Bool} {held : Bool} {fuel : Nat} {t : TypeId} {cs : List Value} {x : DataW H × List MemPlace} {k : FloatKind}
    (ht : P.underlying t = some (.float k)) (h : DataW.trod enc P w base spare held fuel t cs = some x) : ∃ n, cs = [.float k n] ∧ (Lit.float k n).wf = true := by
  cases fuel with
  | zero => simp [DataW.trod] at h
  | succ n =>
    unfold DataW.trod at h
    rw [ht] at h
    split at h <;> simp_all
theorem weights_mem_all {H : Type} {P : Program} {e : TypeId} : ∀ {ds : List (DataW H)} {d : DataW H}, d ∈ ds → ∀ n ∈ d.weights P e, n ∈ DataW.weightsAll P e ds
  | d0 :: ds, d, hd, n, hn => by
    simp only [DataW.weightsAll, List.mem_append]
    rcases List.mem_cons.1 hd with rfl | hd
    · exact .inl hn
    · exact .inr (weights_mem_all hd n hn)
theorem Try.cellsVal : Try.prog.cellsOf 43 = 6 := by kernel_rfl
theorem Try.cellsStr : Try.prog.cellsOf 9 = 1 := by kernel_rfl
theorem Try.cellsInt : Try.prog.cellsOf 3 = 1 := by kernel_rfl
theorem Try.cellsInt64 : Try.prog.cellsOf 2 = 1 := by kernel_rfl
theorem Try.cellsFlt : Try.prog.cellsOf 40 = 1 := by kernel_rfl
theorem Try.cellsStrs : Try.prog.cellsOf 41 = 1 := by kernel_rfl
theorem Try.cellsVals : Try.prog.cellsOf 33 = 1 := by kernel_rfl
theorem Try.bytesVal : Try.prog.bytesOf 43 = 88 := by kernel_rfl
theorem Try.bytesStr : Try.prog.bytesOf 9 = 16 := by kernel_rfl
theorem cells_six {w : World} {base : Nat} {a : Addr} {cs : List Value} (h : w.cells? base a 6 = some cs) :
    ∃ c0 c1 c2 c3 c4 c5, cs = [c0, c1, c2, c3, c4, c5] ∧ w.cell? a = some c0 ∧ w.cell? (a.add 1) = some c1 ∧ w.cell? (a.add 2) = some c2 ∧ w.cell? (a.add 3) = some c3 ∧ w.cell? (a.add 4) = some c4 ∧ w.cell? (a.add 5) = some c5 := by
  unfold World.cells? at h
  split at h
  · simp only [List.range, List.range.loop, List.mapM_cons, List.mapM_nil] at h
    simp only [Option.bind_eq_bind, Option.bind_eq_some_iff, Option.pure_def, Option.some.injEq] at h
    obtain ⟨c0, h0, l1, ⟨c1, h1, l2, ⟨c2, h2, l3, ⟨c3, h3, l4, ⟨c4, h4, l5, ⟨c5, h5, l6, e6, e5⟩, e4⟩, e3⟩, e2⟩, e1⟩, e0⟩ := h
    subst e6 e5 e4 e3 e2 e1 e0
    exact ⟨c0, c1, c2, c3, c4, c5, rfl, by simpa [Addr.add] using h0, h1, h2, h3, h4, h5⟩
  · simp at h
theorem isVs_of {w : World} {S : Nat → Prop} {b : Nat} : ∀ (n o : Nat), (∀ i, i < n → ∃ x c0 c1 c2 c3 c4 c5, w.cell? ⟨b, o + i * 6, none⟩ = some c0 ∧ w.cell? ⟨b, o + i * 6 + 1, none⟩ = some c1 ∧ w.cell? ⟨b, o + i * 6 + 2, none⟩ = some c2 ∧
      w.cell? ⟨b, o + i * 6 + 3, none⟩ = some c3 ∧ w.cell? ⟨b, o + i * 6 + 4, none⟩ = some c4 ∧ w.cell? ⟨b, o + i * 6 + 5, none⟩ = some c5 ∧ IsV w S x (.agg #[c0, c1, c2, c3, c4, c5])) → ∃ l : List GV, l.length = n ∧ IsVs w S l b o
  | 0, _, _ => ⟨[], rfl, by simp [IsVs]⟩
  | n + 1, o, h => by
    obtain ⟨x, c0, c1, c2, c3, c4, c5, h0⟩ := h 0 (Nat.succ_pos _)
    obtain ⟨l, hl, hv⟩ := isVs_of (w := w) (S := S) (b := b) n (o + 6) (fun i hi => by
      have := h (i + 1) (by omega)
      rwa [show o + (i + 1) * 6 = o + 6 + i * 6 by omega] at this)
    refine ⟨x :: l, by simp [hl], ?_⟩
    unfold IsVs
    exact ⟨⟨c0, c1, c2, c3, c4, c5, by simpa using h0⟩, hv⟩
theorem isStrs_of_trod {H : Type} {enc : TypeId × Value → H} {w : World} {fuel : Nat} {cs : List Value} {d : DataW H} {ps : List MemPlace}
    (h : DataW.trod enc Try.prog w 0 (fun _ => true) true fuel 41 cs = some (d, ps)) (hw : ∀ n ∈ d.weights Try.prog 41, n ≤ reachBytes) :
    ∃ v ks, cs = [v] ∧ IsStrs w (Btw 0 w.heap.size) v ks := by
  rcases open_strings Try.underlying41 Try.underlying9 Try.cellsStr h with ⟨rfl, hx⟩ | ⟨a, len, cap, ss, rfl, _, hl, hm, hz, hx, hcell, hws⟩
  · exact ⟨_, [], rfl, none, 0, rfl, Nat.le_refl _, by decide, by simp, fun h => by simp at h⟩
  · simp only [if_true] at hz
    simp only [Prod.mk.injEq] at hx
    obtain ⟨rfl, rfl⟩ := hx
    have hlen : (ss.take len).length = len := by simp; omega
    have hsz := hw (((strs (H := H) (ss.take len)).length + (strs (H := H) (ss.drop len)).length) * Try.prog.bytesOf 9) (by simp [DataW.weights, Try.underlying41])
    rw [Try.bytesStr] at hsz
    simp only [strs, List.length_map, List.length_take, List.length_drop, reachBytes] at hsz
    refine ⟨_, ss.take len, rfl, some a, cap, by rw [hlen], by rw [hlen]; exact hl, by rw [hlen]; omega, fun s hs => hws s (List.mem_of_mem_take hs), fun hp => ?_⟩
    rw [hlen] at hp
    have h0 := hcell 0 (by omega)
    have hspot : a.spot = none := by simpa [Addr.add] using World.cell?_spot h0
    obtain ⟨b, o, sp⟩ := a
    subst hspot
    refine ⟨b, o, ⟨Nat.zero_le _, by have := World.block_lt_of_cell? w _ h0; simpa [Addr.add] using this⟩, rfl, fun i hi => ?_⟩
    rw [hlen] at hi
    have := hcell i (by omega)
    rw [add_plain] at this
    rw [this]
    simp [List.getD, hi]
set_option maxRecDepth 100000 in
set_option maxHeartbeats 1000000 in
theorem isV_of_trod {H : Type} {enc : TypeId × Value → H} {w : World} (fuel : Nat) {cs : List Value} {d : DataW H} {ps : List MemPlace}
    (h : DataW.trod enc Try.prog w 0 (fun _ => true) true fuel 43 cs = some (d, ps)) (hw : ∀ n ∈ d.weights Try.prog 43, n ≤ reachBytes) :
    ∃ x c0 c1 c2 c3 c4 c5, cs = [c0, c1, c2, c3, c4, c5] ∧ IsV w (Btw 0 w.heap.size) x (.agg #[c0, c1, c2, c3, c4, c5]) := by
  obtain ⟨xs, n, rfl, hx, hl, hlen, hf⟩ := DataW.trod_struct Try.underlying43 h
  rw [Try.cellsVal] at hl
  match cs, hl with
  | [c0, c1, c2, c3, c4, c5], _ =>
  match xs, hlen with
  | [y0, y1, y2, y3, y4, y5], _ =>
  have h0 : DataW.trod enc Try.prog w 0 (fun _ => true) true n 3 (([c0, c1, c2, c3, c4, c5].drop 0).take (Try.prog.cellsOf 3)) = some y0 := (by have g := hf 0 _ rfl; exact g)
  have h1 : DataW.trod enc Try.prog w 0 (fun _ => true) true n 2 (([c0, c1, c2, c3, c4, c5].drop 1).take (Try.prog.cellsOf 2)) = some y1 := (by have g := hf 1 _ rfl; exact g)
  have h2 : DataW.trod enc Try.prog w 0 (fun _ => true) true n 40 (([c0, c1, c2, c3, c4, c5].drop 2).take (Try.prog.cellsOf 40)) = some y2 := (by have g := hf 2 _ rfl; exact g)
  have h3 : DataW.trod enc Try.prog w 0 (fun _ => true) true n 9 (([c0, c1, c2, c3, c4, c5].drop 3).take (Try.prog.cellsOf 9)) = some y3 := (by have g := hf 3 _ rfl; exact g)
  have h4 : DataW.trod enc Try.prog w 0 (fun _ => true) true n 41 (([c0, c1, c2, c3, c4, c5].drop 4).take (Try.prog.cellsOf 41)) = some y4 := (by have g := hf 4 _ rfl; exact g)
  have h5 : DataW.trod enc Try.prog w 0 (fun _ => true) true n 33 (([c0, c1, c2, c3, c4, c5].drop 5).take (Try.prog.cellsOf 33)) = some y5 := (by have g := hf 5 _ rfl; exact g)
  clear hf h
  simp only [Try.cellsInt, Try.cellsInt64, Try.cellsFlt, Try.cellsStr, Try.cellsStrs, Try.cellsVals, List.drop_zero, List.drop_succ_cons, List.take_succ_cons, List.take_zero] at h0 h1 h2 h3 h4 h5
  simp only [Prod.mk.injEq] at hx
  obtain ⟨rfl, rfl⟩ := hx
  obtain ⟨k, e0, -, w0⟩ := DataW.trod_int Try.underlying3 h0
  obtain ⟨m, e1, -, w1⟩ := DataW.trod_int Try.underlying2 h1
  obtain ⟨f, e2, w2⟩ := trodFloat Try.underlying40 h2
  obtain ⟨s, e3, -, w3⟩ := DataW.trod_string Try.underlying9 h3
  simp only [DataW.weights, Try.underlying43, List.map_cons, List.map_nil, DataW.weightsEach, List.mem_append, List.append_nil] at hw
  obtain ⟨v4, ks, e4, hks⟩ := isStrs_of_trod (d := y4.1) (ps := y4.2) h4 (fun n hn => hw n (by simp [hn]))
  simp only [List.cons.injEq, and_true] at e0 e1 e2 e3 e4
  subst e0 e1 e2 e3 e4
  have hw5 : ∀ n ∈ y5.1.weights Try.prog 33, n ≤ reachBytes := fun n hn => hw n (by simp [hn])
  clear h0 h1 h2 h3 h4 hw
  rcases DataW.trod_slice Try.underlying33 h5 with ⟨e5, -⟩ | ⟨a, len, cap, elems, rest, n', hn', e5, hx5, _, hlc, hm, hlen5, hel, _, _⟩
  · simp only [List.cons.injEq, and_true] at e5
    subst e5
    refine ⟨.mk k m f s ks [], _, _, _, _, _, _, rfl, ?_⟩
    unfold IsV
    exact ⟨_, none, 0, rfl, w0, w1, w2, w3, hks, Nat.le_refl _, by decide, .inl rfl⟩
  · simp only [List.cons.injEq, and_true] at e5
    subst e5
    rw [hx5] at hw5
    simp only [DataW.weights, Try.underlying33, Try.bytesVal, List.length_map] at hw5
    have hsz := hw5 ((elems.length + rest.length) * 88) (by simp)
    simp only [reachBytes] at hsz
    rw [Try.cellsVal] at hel
    have key : ∀ i, i < len → ∃ x c0 c1 c2 c3 c4 c5, w.cell? (a.add (i * 6)) = some c0 ∧ w.cell? ((a.add (i * 6)).add 1) = some c1 ∧ w.cell? ((a.add (i * 6)).add 2) = some c2 ∧
        w.cell? ((a.add (i * 6)).add 3) = some c3 ∧ w.cell? ((a.add (i * 6)).add 4) = some c4 ∧ w.cell? ((a.add (i * 6)).add 5) = some c5 ∧ IsV w (Btw 0 w.heap.size) x (.agg #[c0, c1, c2, c3, c4, c5]) := by
      intro i hi
      have hb := hel i hi
      obtain ⟨y, hy⟩ : ∃ y, elems[i]? = some y := ⟨elems[i], by simp [hlen5, hi]⟩
      rw [hy, Option.bind_eq_some_iff] at hb
      obtain ⟨cs', hcs, hb⟩ := hb
      obtain ⟨x, c0, c1, c2, c3, c4, c5, rfl, hv⟩ := isV_of_trod n' (d := y.1) (ps := y.2) hb (fun q hq => hw5 q (by
        simp only [List.mem_cons, List.mem_append]
        exact .inr (.inl (weights_mem_all (List.mem_map_of_mem (List.mem_of_getElem? hy)) q hq))))
      obtain ⟨d0, d1, d2, d3, d4, d5, e, g⟩ := cells_six hcs
      simp only [List.cons.injEq, and_true] at e
      obtain ⟨rfl, rfl, rfl, rfl, rfl, rfl⟩ := e
      exact ⟨x, _, _, _, _, _, _, g.1, g.2.1, g.2.2.1, g.2.2.2.1, g.2.2.2.2.1, g.2.2.2.2.2, hv⟩
    by_cases hl0 : len = 0
    · subst hl0
      refine ⟨.mk k m f s ks [], _, _, _, _, _, _, rfl, ?_⟩
      unfold IsV
      exact ⟨_, some a, cap, rfl, w0, w1, w2, w3, hks, Nat.zero_le _, by decide, .inl rfl⟩
    · obtain ⟨_, _, _, _, _, _, _, g0, _⟩ := key 0 (by omega)
      have hspot : a.spot = none := by simpa [Addr.add] using World.cell?_spot g0
      have hlt := World.block_lt_of_cell? w _ g0
      obtain ⟨b, o, sp⟩ := a
      subst hspot
      simp only [add_plain] at key
      obtain ⟨l, hll, hvs⟩ := isVs_of (b := b) len o key
      refine ⟨.mk k m f s ks l, _, _, _, _, _, _, rfl, ?_⟩
      unfold IsV
      exact ⟨_, _, cap, by rw [hll], w0, w1, w2, w3, hks, by omega, by omega, .inr ⟨b, o, ⟨Nat.zero_le _, by simpa [Addr.add] using hlt⟩, rfl, hvs⟩⟩
termination_by fuel
decreasing_by omega
end Go.Proofs.Ytbbacpdbbmjblaa
end
section
namespace Go.Proofs.Ytbbacpdbbmjblaa
open Go.ChangeShapes Go.WideShapes Go.ChangeAt Go.RowKit
theorem Try.cellsElem : Try.prog.cellsOf 60 = 11 := by kernel_rfl
set_option maxHeartbeats 1000000 in
theorem isL_of_trod {H : Type} {enc : TypeId × Value → H} {w : World} (fuel : Nat) {cs : List Value} {d : DataW H} {ps : List MemPlace}
    (h5 : DataW.trod enc Try.prog w 0 (fun _ => true) true fuel 33 cs = some (d, ps)) (hw5 : ∀ n ∈ d.weights Try.prog 33, n ≤ reachBytes) :
    ∃ a c, ∃ l : List GV, cs = [.slice a l.length c] ∧ l.length ≤ c ∧ l.length * 88 ≤ 140737488351232 ∧ (l = [] ∨ ∃ b o, Btw 0 w.heap.size b ∧ a = some ⟨b, o, none⟩ ∧ IsVs w (Btw 0 w.heap.size) l b o) := by
  rcases DataW.trod_slice Try.underlying33 h5 with ⟨e5, -⟩ | ⟨a, len, cap, elems, rest, n', hn', e5, hx5, _, hlc, hm, hlen5, hel, _, _⟩
  · exact ⟨none, 0, [], e5, Nat.le_refl _, by decide, .inl rfl⟩
  · obtain ⟨rfl, _⟩ : d = _ ∧ ps = _ := by simpa only [Prod.mk.injEq] using hx5
    simp only [DataW.weights, Try.underlying33, Try.bytesVal, List.length_map] at hw5
    have hsz := hw5 ((elems.length + rest.length) * 88) (by simp)
    simp only [reachBytes] at hsz
    rw [Try.cellsVal] at hel
    have key : ∀ i, i < len → ∃ x c0 c1 c2 c3 c4 c5, w.cell? (a.add (i * 6)) = some c0 ∧ w.cell? ((a.add (i * 6)).add 1) = some c1 ∧ w.cell? ((a.add (i * 6)).add 2) = some c2 ∧
        w.cell? ((a.add (i * 6)).add 3) = some c3 ∧ w.cell? ((a.add (i * 6)).add 4) = some c4 ∧ w.cell? ((a.add (i * 6)).add 5) = some c5 ∧ IsV w (Btw 0 w.heap.size) x (.agg #[c0, c1, c2, c3, c4, c5]) := by
      intro i hi
      have hb := hel i hi
      obtain ⟨y, hy⟩ : ∃ y, elems[i]? = some y := ⟨elems[i], by simp [hlen5, hi]⟩
      rw [hy, Option.bind_eq_some_iff] at hb
      obtain ⟨cs', hcs, hb⟩ := hb
      obtain ⟨x, c0, c1, c2, c3, c4, c5, rfl, hv⟩ := isV_of_trod n' (d := y.1) (ps := y.2) hb (fun q hq => hw5 q (by
        simp only [List.mem_cons, List.mem_append]
        exact .inr (.inl (weights_mem_all (List.mem_map_of_mem (List.mem_of_getElem? hy)) q hq))))
      obtain ⟨d0, d1, d2, d3, d4, d5, e, g⟩ := cells_six hcs
      simp only [List.cons.injEq, and_true] at e
      obtain ⟨rfl, rfl, rfl, rfl, rfl, rfl⟩ := e
      exact ⟨x, _, _, _, _, _, _, g.1, g.2.1, g.2.2.1, g.2.2.2.1, g.2.2.2.2.1, g.2.2.2.2.2, hv⟩
    by_cases hl0 : len = 0
    · subst hl0
      exact ⟨some a, cap, [], e5, Nat.zero_le _, by decide, .inl rfl⟩
    · obtain ⟨_, _, _, _, _, _, _, g0, _⟩ := key 0 (by omega)
      have hspot : a.spot = none := by simpa [Addr.add] using World.cell?_spot g0
      have hlt := World.block_lt_of_cell? w _ g0
      obtain ⟨b, o, sp⟩ := a
      subst hspot
      simp only [add_plain] at key
      obtain ⟨l, hll, hvs⟩ := isVs_of (b := b) len o key
      exact ⟨_, cap, l, by rw [hll]; exact e5, by omega, by omega, .inr ⟨b, o, ⟨Nat.zero_le _, by simpa [Addr.add] using hlt⟩, rfl, hvs⟩⟩
set_option maxRecDepth 100000 in
set_option maxHeartbeats 1000000 in
theorem isE_of_trod {H : Type} {enc : TypeId × Value → H} {w : World} (fuel : Nat) {cs : List Value} {d : DataW H} {ps : List MemPlace}
    (h : DataW.trod enc Try.prog w 0 (fun _ => true) true fuel 60 cs = some (d, ps)) (hw : ∀ n ∈ d.weights Try.prog 60, n ≤ reachBytes) :
    ∃ x, IsE w (Btw 0 w.heap.size) x (.agg cs.toArray) := by
  obtain ⟨xs, n, rfl, hx, hl, hlen, hf⟩ := DataW.trod_struct Try.underlying60 h
  rw [Try.cellsElem] at hl
  match cs, hl with
  | [c0, c1, c2, c3, c4, c5, c6, c7, c8, c9, c10], _ =>
  match xs, hlen with
  | [y0, y1, y2, y3, y4, y5], _ =>
  have h0 : DataW.trod enc Try.prog w 0 (fun _ => true) true n 3 (([c0, c1, c2, c3, c4, c5, c6, c7, c8, c9, c10].drop 0).take (Try.prog.cellsOf 3)) = some y0 := (by have g := hf 0 _ rfl; exact g)
  have h1 : DataW.trod enc Try.prog w 0 (fun _ => true) true n 9 (([c0, c1, c2, c3, c4, c5, c6, c7, c8, c9, c10].drop 1).take (Try.prog.cellsOf 9)) = some y1 := (by have g := hf 1 _ rfl; exact g)
  have h2 : DataW.trod enc Try.prog w 0 (fun _ => true) true n 41 (([c0, c1, c2, c3, c4, c5, c6, c7, c8, c9, c10].drop 2).take (Try.prog.cellsOf 41)) = some y2 := (by have g := hf 2 _ rfl; exact g)
  have h3 : DataW.trod enc Try.prog w 0 (fun _ => true) true n 33 (([c0, c1, c2, c3, c4, c5, c6, c7, c8, c9, c10].drop 3).take (Try.prog.cellsOf 33)) = some y3 := (by have g := hf 3 _ rfl; exact g)
  have h4 : DataW.trod enc Try.prog w 0 (fun _ => true) true n 43 (([c0, c1, c2, c3, c4, c5, c6, c7, c8, c9, c10].drop 4).take (Try.prog.cellsOf 43)) = some y4 := (by have g := hf 4 _ rfl; exact g)
  have h5 : DataW.trod enc Try.prog w 0 (fun _ => true) true n 3 (([c0, c1, c2, c3, c4, c5, c6, c7, c8, c9, c10].drop 10).take (Try.prog.cellsOf 3)) = some y5 := (by have g := hf 5 _ rfl; exact g)
  clear hf h
  simp only [Try.cellsInt, Try.cellsStr, Try.cellsStrs, Try.cellsVals, Try.cellsVal, List.drop_zero, List.drop_succ_cons, List.take_succ_cons, List.take_zero] at h0 h1 h2 h3 h4 h5
  simp only [Prod.mk.injEq] at hx
  obtain ⟨rfl, rfl⟩ := hx
  obtain ⟨k, e0, -, w0⟩ := DataW.trod_int Try.underlying3 h0
  obtain ⟨s, e1, -, w1⟩ := DataW.trod_string Try.underlying9 h1
  obtain ⟨m, e5, -, w5⟩ := DataW.trod_int Try.underlying3 h5
  simp only [DataW.weights, Try.underlying60, List.map_cons, List.map_nil, DataW.weightsEach, List.mem_append, List.append_nil] at hw
  obtain ⟨v2, ks, e2, hks⟩ := isStrs_of_trod (d := y2.1) (ps := y2.2) h2 (fun n hn => hw n (by simp [hn]))
  obtain ⟨a, c, l, e3, hlc, hl88, hvs⟩ := isL_of_trod n (d := y3.1) (ps := y3.2) h3 (fun n hn => hw n (by simp [hn]))
  obtain ⟨y, d0, d1, d2, d3, d4, d5, e4, hy⟩ := isV_of_trod n (d := y4.1) (ps := y4.2) h4 (fun n hn => hw n (by simp [hn]))
  simp only [List.cons.injEq, and_true] at e0 e1 e2 e3 e4 e5
  obtain ⟨rfl, rfl, rfl, rfl, rfl, rfl⟩ := e4
  subst e0 e1 e2 e3 e5
  obtain ⟨ak, ck, rfl, hr⟩ := hks
  exact ⟨⟨k, s, ks, l, y, m⟩, ak, ck, a, c, _, _, _, _, _, _, rfl, w0, w5, w1, ⟨ak, ck, rfl, hr⟩, hlc, hl88, hvs, hy⟩
set_option maxRecDepth 100000 in
/-- An argument of type impl.Elem. -/
theorem isE_of_arg {H : Type} {enc : TypeId × Value → H} {w : World} {v : Value} {d : DataW H} {ps : List MemPlace} {base : Nat} (hv : Value.okWide Try.prog w .any base 60 v)
    (h : DataW.Trod enc Try.prog w 0 (fun _ => true) true 60 v d ps) (hw : ∀ n ∈ d.weights Try.prog 60, n ≤ reachBytes) : ∃ x, IsE w (Btw 0 w.heap.size) x v := by
  obtain ⟨cs, rfl, _⟩ := okWide_struct Try.underlying60 hv
  obtain ⟨fuel, hf⟩ := h
  obtain ⟨x, hx⟩ := isE_of_trod fuel hf hw
  refine ⟨x, ?_⟩
  have e : cs.toList.toArray = cs := Array.toArray_toList
  have hx' : IsE w (Btw 0 w.heap.size) x (.agg cs.toList.toArray) := hx
  rwa [e] at hx'
end Go.Proofs.Ytbbacpdbbmjblaa
end
