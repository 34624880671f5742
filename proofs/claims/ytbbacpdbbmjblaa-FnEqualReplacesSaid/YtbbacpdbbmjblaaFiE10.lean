/- Part 10 of what the proof rests on. -/
import Derived.Test.YtbbacpdbbmjblaaFiE5
import Derived.Test.YtbbacpdbbmjblaaFiE7
import Derived.Test.YtbbacpdbbmjblaaFiE8
section
set_option linter.unusedVariables false
namespace Go.Proofs.Ytbbacpdbbmjblaa
open Go.RowKit
set_option linter.unusedSimpArgs false
theorem implEq_p (x y : GV) : PCall Try.prog 17 [qV x, qV y] (.val (.bool (eqJ (plainJ x) (plainJ y)))) := by
  have c1 := toValue_p x
  have c2 := toValue_p y
  have c3 := equals_p (plainJ x) (plainJ y)
  refine pcall_of_run Try.func17 rfl Try.ntmps17 rfl (fun X => ?_)
  repeat' (first
    | refine run_seq ?_
    | (refine k_pick rfl ?_; first | refine k_assignD rfl rfl ?_ | refine k_boxW rfl rfl rfl (by first | rfl | (simp only [cellsD]; rfl)) ?_)
    | refine run_opsEnd ?_
    | refine run_region ?_
    | refine run_retOk (resOk_tmp rfl rfl ?_)
    | refine run_drawC (by kernel_rfl) ?_
    | refine c_nil (And.intro (by kernel_rfl) ?_)
    | refine c_pick (d_assignD rfl rfl) ?_
    | refine c_pick (d_loadW rfl rfl rfl (by first | rfl | (simp only [cellsD]; rfl))) ?_
    | refine c_pick (d_call rfl (by kernel_rfl) rfl (by first | exact c1 | exact c2 | exact c3)) ?_
    | fail)
  all_goals exact PLe.refl _
end Go.Proofs.Ytbbacpdbbmjblaa
end
section
set_option linter.unusedVariables false
namespace Go.Proofs.Ytbbacpdbbmjblaa
open Go.RowKit
set_option linter.unusedSimpArgs false
theorem cmpP_same (x : GV) : cmpP x x = 0 := by
  have := swap_P x x
  omega
theorem eqVG {x y : GV} (hx : Fits (qV x)) (hy : Fits (qV y)) : eqJ (plainJ x) (plainJ y) = eqP (cleanV x) (cleanV y) := by
  obtain ⟨w0, F0, v0, h0⟩ := hx
  obtain ⟨w1, F1, v1, h1⟩ := hy
  rw [← eq_law _ _ (plain_ok x (IsV.gok x (rep_isV x (by rw [pdV_eq]; exact h0)))) (plain_ok y (IsV.gok y (rep_isV y (by rw [pdV_eq]; exact h1)))), un_plain, un_plain]
theorem eqJ_lists {a b c : JV} (h1 : eqJ c c = true) (h2 : eqJ a b = true) : eqJ (.list [c, a]) (.list [c, b]) = true := by
  simp [eqJ, eqJs, h1, h2]
theorem eqJ_maps {a b : JV} (k : ByteArray) (h2 : eqJ a b = true) : eqJ (.map [(k, a)]) (.map [(k, b)]) = true := by
  simp [eqJ, eqJm, lkJ, h2]
theorem clean_two (x y : GV) : cleanV (.mk 5 0 0 ByteArray.empty [] [x, y]) = .mk 5 0 0 ByteArray.empty [] [cleanV x, cleanV y] := by
  simp [cleanV, cleanL]
theorem clean_one (k : ByteArray) (x : GV) : cleanV (.mk 6 0 0 ByteArray.empty [k] [x]) = .mk 6 0 0 ByteArray.empty [k] [cleanV x] := by
  simp [cleanV, cleanM, withF, insL, GV.keys, GV.l]
theorem OG_two {x y : GV} (hx : OG x) (hy : OG y) : OG (.mk 5 0 0 ByteArray.empty [] [x, y]) := by
  unfold OG
  exact ⟨OGs_of (by simp [hx, hy]), by simp⟩
theorem OG_one {x : GV} (k : ByteArray) (hx : OG x) : OG (.mk 6 0 0 ByteArray.empty [k] [x]) := by
  unfold OG
  exact ⟨OGs_of (by simp [hx]), by simp [Incr]⟩
theorem cmp_two {x y : GV} (z : GV) (h : cmpP x y = 0) : cmpP (.mk 5 0 0 ByteArray.empty [] [z, x]) (.mk 5 0 0 ByteArray.empty [] [z, y]) = 0 := by
  rw [cmpP_lx, rank_mk, rank_mk, lx_zero (cmpI_self _)]
  show cmpPl [z, x] [z, y] = 0
  rw [cmpPl_cons, cmpPl_cons, lx_zero (cmpP_same z), lx_zero h, cmpPl_nil]
  rfl
theorem cmp_one {x y : GV} (k : ByteArray) (h : cmpP x y = 0) : cmpP (.mk 6 0 0 ByteArray.empty [k] [x]) (.mk 6 0 0 ByteArray.empty [k] [y]) = 0 := by
  rw [cmpP_lx, rank_mk, rank_mk, lx_zero (cmpI_self _)]
  show cmpPm [k] [x] [k] [y] = 0
  rw [cmpPm_cons, lx_zero (cmpS_zero.2 rfl), lx_zero h, cmpPm_nil]
  rfl
set_option maxHeartbeats 8000000 in
theorem lawER_p (x y z : GV) : PCall Try.prog 7 [qV x, qV y, qV z] (.val (.bool true)) := by
  refine pcall_fits fun hf => ?_
  have f1 := hf (qV x) (by simp)
  have f2 := hf (qV y) (by simp)
  have f3 := hf (qV z) (by simp)
  clear hf
  obtain ⟨b1, c1⟩ := fits5_p x
  obtain ⟨b2, c2⟩ := fits5_p y
  obtain ⟨b3, c3⟩ := fits5_p z
  have c4 := ordV_p x
  have c5 := ordV_p y
  have c6 := ordV_p z
  cases b1 with
  | false =>
    refine pcall_of_run Try.func7 rfl Try.ntmps7 rfl (fun X => ?_)
    repeat' (first
    | refine run_seq ?_
    | (refine k_pick rfl ?_; first
      | refine k_assignD rfl rfl ?_
      | refine k_moveD rfl rfl ?_
      | refine k_loadW rfl rfl rfl (by first | rfl | (simp only [cellsD]; rfl)) ?_
      | refine k_loadBD rfl rfl rfl (by first | rfl | (simp only [cellsD]; rfl)) ?_
      | refine k_bin2B rfl rfl rfl rfl ?_
      | refine k_pickT rfl rfl (by first | rfl | assumption) rfl ?_
      | refine k_pickF rfl rfl (by first | rfl | assumption) rfl ?_
      | refine k_boxW rfl rfl rfl (by first | rfl | (simp only [cellsD]; rfl)) ?_
      | refine k_call rfl (by kernel_rfl) rfl (by first | exact c1 | exact c2 | exact c3) ?_
      | refine k_not rfl rfl ?_)
    | refine run_opsEnd ?_
    | refine run_region ?_
    | refine run_condT rfl (by first | rfl | assumption) ?_
    | refine run_condF rfl (by first | rfl | assumption) ?_
    | refine run_cond rfl (fun h => ?_) (fun h => ?_)
    | (refine k_guardY rfl rfl (by first | rfl | assumption) ?_; first
      | refine k_assignD rfl rfl ?_
      | refine k_moveD rfl rfl ?_
      | refine k_loadW rfl rfl rfl (by first | rfl | (simp only [cellsD]; rfl)) ?_
      | refine k_loadBD rfl rfl rfl (by first | rfl | (simp only [cellsD]; rfl)) ?_
      | refine k_bin2B rfl rfl rfl rfl ?_
      | refine k_pickT rfl rfl (by first | rfl | assumption) rfl ?_
      | refine k_pickF rfl rfl (by first | rfl | assumption) rfl ?_
      | refine k_boxW rfl rfl rfl (by first | rfl | (simp only [cellsD]; rfl)) ?_
      | refine k_call rfl (by kernel_rfl) rfl (by first | exact c1 | exact c2 | exact c3) ?_
      | refine k_not rfl rfl ?_)
    | refine k_guardU rfl rfl rfl ?_
    | refine k_guardNT rfl rfl (by first | rfl | assumption) rfl ?_
    | refine k_guardNF rfl rfl (by first | rfl | assumption) rfl ?_
    | refine k_guardT rfl rfl rfl (fun h => ?_) (fun h => ?_)
    | refine k_guardF rfl rfl rfl (fun h => ?_) (fun h => ?_)
    | refine run_block ?_
    | refine run_blkEnd ?_
    | refine run_skip ?_
    | refine run_exit rfl ?_
    | refine run_retOk (resOk_tmp rfl rfl ?_)
    | refine run_retOk (resOk_tmp2 rfl rfl rfl ?_ ?_)
    | refine run_retOk (resOk_cell rfl rfl rfl (by first | rfl | (simp only [cellsD]; rfl)) ?_)
    | refine run_retOk (resOk_cellTmp rfl rfl rfl (by first | rfl | (simp only [cellsD]; rfl)) rfl ?_ ?_)
    | (first
      | refine k_assignD rfl rfl ?_
      | refine k_moveD rfl rfl ?_
      | refine k_loadW rfl rfl rfl (by first | rfl | (simp only [cellsD]; rfl)) ?_
      | refine k_loadBD rfl rfl rfl (by first | rfl | (simp only [cellsD]; rfl)) ?_
      | refine k_bin2B rfl rfl rfl rfl ?_
      | refine k_pickT rfl rfl (by first | rfl | assumption) rfl ?_
      | refine k_pickF rfl rfl (by first | rfl | assumption) rfl ?_
      | refine k_boxW rfl rfl rfl (by first | rfl | (simp only [cellsD]; rfl)) ?_
      | refine k_call rfl (by kernel_rfl) rfl (by first | exact c1 | exact c2 | exact c3) ?_
      | refine k_not rfl rfl ?_)
    | refine run_drawC (by kernel_rfl) ?_
    | refine c_nil (And.intro (by kernel_rfl) ?_)
    | refine c_pick (d_assignD rfl rfl) ?_
    | refine c_pick (d_moveD rfl rfl) ?_
    | refine c_pick (d_loadW rfl rfl rfl (by first | rfl | (simp only [cellsD]; rfl))) ?_
    | refine c_pick (d_loadBD rfl rfl rfl (by first | rfl | (simp only [cellsD]; rfl))) ?_
    | refine c_pick (d_bin2B rfl rfl rfl rfl) ?_
    | refine c_pick (d_pickT rfl rfl (by first | rfl | assumption) rfl) ?_
    | refine c_pick (d_pickF rfl rfl (by first | rfl | assumption) rfl) ?_
    | refine c_pick (d_boxW rfl rfl rfl (by first | rfl | (simp only [cellsD]; rfl))) ?_
    | refine c_pick (d_call rfl (by kernel_rfl) rfl (by first | exact c1 | exact c2 | exact c3)) ?_
    | refine c_pick (d_not rfl rfl) ?_
    | refine c_passU rfl rfl ?_
    | refine c_passT rfl (by first | rfl | assumption) rfl ?_
    | refine c_passF rfl (by first | rfl | assumption) rfl ?_
    | refine c_pickY rfl (by first | rfl | assumption) (d_assignD rfl rfl) ?_
    | refine c_pickY rfl (by first | rfl | assumption) (d_moveD rfl rfl) ?_
    | refine c_pickY rfl (by first | rfl | assumption) (d_loadW rfl rfl rfl (by first | rfl | (simp only [cellsD]; rfl))) ?_
    | refine c_pickY rfl (by first | rfl | assumption) (d_loadBD rfl rfl rfl (by first | rfl | (simp only [cellsD]; rfl))) ?_
    | refine c_pickY rfl (by first | rfl | assumption) (d_bin2B rfl rfl rfl rfl) ?_
    | refine c_pickY rfl (by first | rfl | assumption) (d_pickT rfl rfl (by first | rfl | assumption) rfl) ?_
    | refine c_pickY rfl (by first | rfl | assumption) (d_pickF rfl rfl (by first | rfl | assumption) rfl) ?_
    | refine c_pickY rfl (by first | rfl | assumption) (d_boxW rfl rfl rfl (by first | rfl | (simp only [cellsD]; rfl))) ?_
    | refine c_pickY rfl (by first | rfl | assumption) (d_call rfl (by kernel_rfl) rfl (by first | exact c1 | exact c2 | exact c3)) ?_
    | refine c_pickY rfl (by first | rfl | assumption) (d_not rfl rfl) ?_
    | refine c_pickD rfl (by assumption) (d_assignD rfl rfl) ?_
    | refine c_pickD rfl (by assumption) (d_moveD rfl rfl) ?_
    | refine c_pickD rfl (by assumption) (d_loadW rfl rfl rfl (by first | rfl | (simp only [cellsD]; rfl))) ?_
    | refine c_pickD rfl (by assumption) (d_loadBD rfl rfl rfl (by first | rfl | (simp only [cellsD]; rfl))) ?_
    | refine c_pickD rfl (by assumption) (d_bin2B rfl rfl rfl rfl) ?_
    | refine c_pickD rfl (by assumption) (d_pickT rfl rfl (by first | rfl | assumption) rfl) ?_
    | refine c_pickD rfl (by assumption) (d_pickF rfl rfl (by first | rfl | assumption) rfl) ?_
    | refine c_pickD rfl (by assumption) (d_boxW rfl rfl rfl (by first | rfl | (simp only [cellsD]; rfl))) ?_
    | refine c_pickD rfl (by assumption) (d_call rfl (by kernel_rfl) rfl (by first | exact c1 | exact c2 | exact c3)) ?_
    | refine c_pickD rfl (by assumption) (d_not rfl rfl) ?_
    | refine c_splitT rfl rfl (fun h => ?_) (fun h => ?_)
    | refine c_splitF rfl rfl (fun h => ?_) (fun h => ?_)
    | fail)
    all_goals exact PLe.refl _
  | true =>
  cases b2 with
  | false =>
    refine pcall_of_run Try.func7 rfl Try.ntmps7 rfl (fun X => ?_)
    repeat' (first
    | refine run_seq ?_
    | (refine k_pick rfl ?_; first
      | refine k_assignD rfl rfl ?_
      | refine k_moveD rfl rfl ?_
      | refine k_loadW rfl rfl rfl (by first | rfl | (simp only [cellsD]; rfl)) ?_
      | refine k_loadBD rfl rfl rfl (by first | rfl | (simp only [cellsD]; rfl)) ?_
      | refine k_bin2B rfl rfl rfl rfl ?_
      | refine k_pickT rfl rfl (by first | rfl | assumption) rfl ?_
      | refine k_pickF rfl rfl (by first | rfl | assumption) rfl ?_
      | refine k_boxW rfl rfl rfl (by first | rfl | (simp only [cellsD]; rfl)) ?_
      | refine k_call rfl (by kernel_rfl) rfl (by first | exact c1 | exact c2 | exact c3) ?_
      | refine k_not rfl rfl ?_)
    | refine run_opsEnd ?_
    | refine run_region ?_
    | refine run_condT rfl (by first | rfl | assumption) ?_
    | refine run_condF rfl (by first | rfl | assumption) ?_
    | refine run_cond rfl (fun h => ?_) (fun h => ?_)
    | (refine k_guardY rfl rfl (by first | rfl | assumption) ?_; first
      | refine k_assignD rfl rfl ?_
      | refine k_moveD rfl rfl ?_
      | refine k_loadW rfl rfl rfl (by first | rfl | (simp only [cellsD]; rfl)) ?_
      | refine k_loadBD rfl rfl rfl (by first | rfl | (simp only [cellsD]; rfl)) ?_
      | refine k_bin2B rfl rfl rfl rfl ?_
      | refine k_pickT rfl rfl (by first | rfl | assumption) rfl ?_
      | refine k_pickF rfl rfl (by first | rfl | assumption) rfl ?_
      | refine k_boxW rfl rfl rfl (by first | rfl | (simp only [cellsD]; rfl)) ?_
      | refine k_call rfl (by kernel_rfl) rfl (by first | exact c1 | exact c2 | exact c3) ?_
      | refine k_not rfl rfl ?_)
    | refine k_guardU rfl rfl rfl ?_
    | refine k_guardNT rfl rfl (by first | rfl | assumption) rfl ?_
    | refine k_guardNF rfl rfl (by first | rfl | assumption) rfl ?_
    | refine k_guardT rfl rfl rfl (fun h => ?_) (fun h => ?_)
    | refine k_guardF rfl rfl rfl (fun h => ?_) (fun h => ?_)
    | refine run_block ?_
    | refine run_blkEnd ?_
    | refine run_skip ?_
    | refine run_exit rfl ?_
    | refine run_retOk (resOk_tmp rfl rfl ?_)
    | refine run_retOk (resOk_tmp2 rfl rfl rfl ?_ ?_)
    | refine run_retOk (resOk_cell rfl rfl rfl (by first | rfl | (simp only [cellsD]; rfl)) ?_)
    | refine run_retOk (resOk_cellTmp rfl rfl rfl (by first | rfl | (simp only [cellsD]; rfl)) rfl ?_ ?_)
    | (first
      | refine k_assignD rfl rfl ?_
      | refine k_moveD rfl rfl ?_
      | refine k_loadW rfl rfl rfl (by first | rfl | (simp only [cellsD]; rfl)) ?_
      | refine k_loadBD rfl rfl rfl (by first | rfl | (simp only [cellsD]; rfl)) ?_
      | refine k_bin2B rfl rfl rfl rfl ?_
      | refine k_pickT rfl rfl (by first | rfl | assumption) rfl ?_
      | refine k_pickF rfl rfl (by first | rfl | assumption) rfl ?_
      | refine k_boxW rfl rfl rfl (by first | rfl | (simp only [cellsD]; rfl)) ?_
      | refine k_call rfl (by kernel_rfl) rfl (by first | exact c1 | exact c2 | exact c3) ?_
      | refine k_not rfl rfl ?_)
    | refine run_drawC (by kernel_rfl) ?_
    | refine c_nil (And.intro (by kernel_rfl) ?_)
    | refine c_pick (d_assignD rfl rfl) ?_
    | refine c_pick (d_moveD rfl rfl) ?_
    | refine c_pick (d_loadW rfl rfl rfl (by first | rfl | (simp only [cellsD]; rfl))) ?_
    | refine c_pick (d_loadBD rfl rfl rfl (by first | rfl | (simp only [cellsD]; rfl))) ?_
    | refine c_pick (d_bin2B rfl rfl rfl rfl) ?_
    | refine c_pick (d_pickT rfl rfl (by first | rfl | assumption) rfl) ?_
    | refine c_pick (d_pickF rfl rfl (by first | rfl | assumption) rfl) ?_
    | refine c_pick (d_boxW rfl rfl rfl (by first | rfl | (simp only [cellsD]; rfl))) ?_
    | refine c_pick (d_call rfl (by kernel_rfl) rfl (by first | exact c1 | exact c2 | exact c3)) ?_
    | refine c_pick (d_not rfl rfl) ?_
    | refine c_passU rfl rfl ?_
    | refine c_passT rfl (by first | rfl | assumption) rfl ?_
    | refine c_passF rfl (by first | rfl | assumption) rfl ?_
    | refine c_pickY rfl (by first | rfl | assumption) (d_assignD rfl rfl) ?_
    | refine c_pickY rfl (by first | rfl | assumption) (d_moveD rfl rfl) ?_
    | refine c_pickY rfl (by first | rfl | assumption) (d_loadW rfl rfl rfl (by first | rfl | (simp only [cellsD]; rfl))) ?_
    | refine c_pickY rfl (by first | rfl | assumption) (d_loadBD rfl rfl rfl (by first | rfl | (simp only [cellsD]; rfl))) ?_
    | refine c_pickY rfl (by first | rfl | assumption) (d_bin2B rfl rfl rfl rfl) ?_
    | refine c_pickY rfl (by first | rfl | assumption) (d_pickT rfl rfl (by first | rfl | assumption) rfl) ?_
    | refine c_pickY rfl (by first | rfl | assumption) (d_pickF rfl rfl (by first | rfl | assumption) rfl) ?_
    | refine c_pickY rfl (by first | rfl | assumption) (d_boxW rfl rfl rfl (by first | rfl | (simp only [cellsD]; rfl))) ?_
    | refine c_pickY rfl (by first | rfl | assumption) (d_call rfl (by kernel_rfl) rfl (by first | exact c1 | exact c2 | exact c3)) ?_
    | refine c_pickY rfl (by first | rfl | assumption) (d_not rfl rfl) ?_
    | refine c_pickD rfl (by assumption) (d_assignD rfl rfl) ?_
    | refine c_pickD rfl (by assumption) (d_moveD rfl rfl) ?_
    | refine c_pickD rfl (by assumption) (d_loadW rfl rfl rfl (by first | rfl | (simp only [cellsD]; rfl))) ?_
    | refine c_pickD rfl (by assumption) (d_loadBD rfl rfl rfl (by first | rfl | (simp only [cellsD]; rfl))) ?_
    | refine c_pickD rfl (by assumption) (d_bin2B rfl rfl rfl rfl) ?_
    | refine c_pickD rfl (by assumption) (d_pickT rfl rfl (by first | rfl | assumption) rfl) ?_
    | refine c_pickD rfl (by assumption) (d_pickF rfl rfl (by first | rfl | assumption) rfl) ?_
    | refine c_pickD rfl (by assumption) (d_boxW rfl rfl rfl (by first | rfl | (simp only [cellsD]; rfl))) ?_
    | refine c_pickD rfl (by assumption) (d_call rfl (by kernel_rfl) rfl (by first | exact c1 | exact c2 | exact c3)) ?_
    | refine c_pickD rfl (by assumption) (d_not rfl rfl) ?_
    | refine c_splitT rfl rfl (fun h => ?_) (fun h => ?_)
    | refine c_splitF rfl rfl (fun h => ?_) (fun h => ?_)
    | fail)
    all_goals exact PLe.refl _
  | true =>
  cases b3 with
  | false =>
    refine pcall_of_run Try.func7 rfl Try.ntmps7 rfl (fun X => ?_)
    repeat' (first
    | refine run_seq ?_
    | (refine k_pick rfl ?_; first
      | refine k_assignD rfl rfl ?_
      | refine k_moveD rfl rfl ?_
      | refine k_loadW rfl rfl rfl (by first | rfl | (simp only [cellsD]; rfl)) ?_
      | refine k_loadBD rfl rfl rfl (by first | rfl | (simp only [cellsD]; rfl)) ?_
      | refine k_bin2B rfl rfl rfl rfl ?_
      | refine k_pickT rfl rfl (by first | rfl | assumption) rfl ?_
      | refine k_pickF rfl rfl (by first | rfl | assumption) rfl ?_
      | refine k_boxW rfl rfl rfl (by first | rfl | (simp only [cellsD]; rfl)) ?_
      | refine k_call rfl (by kernel_rfl) rfl (by first | exact c1 | exact c2 | exact c3) ?_
      | refine k_not rfl rfl ?_)
    | refine run_opsEnd ?_
    | refine run_region ?_
    | refine run_condT rfl (by first | rfl | assumption) ?_
    | refine run_condF rfl (by first | rfl | assumption) ?_
    | refine run_cond rfl (fun h => ?_) (fun h => ?_)
    | (refine k_guardY rfl rfl (by first | rfl | assumption) ?_; first
      | refine k_assignD rfl rfl ?_
      | refine k_moveD rfl rfl ?_
      | refine k_loadW rfl rfl rfl (by first | rfl | (simp only [cellsD]; rfl)) ?_
      | refine k_loadBD rfl rfl rfl (by first | rfl | (simp only [cellsD]; rfl)) ?_
      | refine k_bin2B rfl rfl rfl rfl ?_
      | refine k_pickT rfl rfl (by first | rfl | assumption) rfl ?_
      | refine k_pickF rfl rfl (by first | rfl | assumption) rfl ?_
      | refine k_boxW rfl rfl rfl (by first | rfl | (simp only [cellsD]; rfl)) ?_
      | refine k_call rfl (by kernel_rfl) rfl (by first | exact c1 | exact c2 | exact c3) ?_
      | refine k_not rfl rfl ?_)
    | refine k_guardU rfl rfl rfl ?_
    | refine k_guardNT rfl rfl (by first | rfl | assumption) rfl ?_
    | refine k_guardNF rfl rfl (by first | rfl | assumption) rfl ?_
    | refine k_guardT rfl rfl rfl (fun h => ?_) (fun h => ?_)
    | refine k_guardF rfl rfl rfl (fun h => ?_) (fun h => ?_)
    | refine run_block ?_
    | refine run_blkEnd ?_
    | refine run_skip ?_
    | refine run_exit rfl ?_
    | refine run_retOk (resOk_tmp rfl rfl ?_)
    | refine run_retOk (resOk_tmp2 rfl rfl rfl ?_ ?_)
    | refine run_retOk (resOk_cell rfl rfl rfl (by first | rfl | (simp only [cellsD]; rfl)) ?_)
    | refine run_retOk (resOk_cellTmp rfl rfl rfl (by first | rfl | (simp only [cellsD]; rfl)) rfl ?_ ?_)
    | (first
      | refine k_assignD rfl rfl ?_
      | refine k_moveD rfl rfl ?_
      | refine k_loadW rfl rfl rfl (by first | rfl | (simp only [cellsD]; rfl)) ?_
      | refine k_loadBD rfl rfl rfl (by first | rfl | (simp only [cellsD]; rfl)) ?_
      | refine k_bin2B rfl rfl rfl rfl ?_
      | refine k_pickT rfl rfl (by first | rfl | assumption) rfl ?_
      | refine k_pickF rfl rfl (by first | rfl | assumption) rfl ?_
      | refine k_boxW rfl rfl rfl (by first | rfl | (simp only [cellsD]; rfl)) ?_
      | refine k_call rfl (by kernel_rfl) rfl (by first | exact c1 | exact c2 | exact c3) ?_
      | refine k_not rfl rfl ?_)
    | refine run_drawC (by kernel_rfl) ?_
    | refine c_nil (And.intro (by kernel_rfl) ?_)
    | refine c_pick (d_assignD rfl rfl) ?_
    | refine c_pick (d_moveD rfl rfl) ?_
    | refine c_pick (d_loadW rfl rfl rfl (by first | rfl | (simp only [cellsD]; rfl))) ?_
    | refine c_pick (d_loadBD rfl rfl rfl (by first | rfl | (simp only [cellsD]; rfl))) ?_
    | refine c_pick (d_bin2B rfl rfl rfl rfl) ?_
    | refine c_pick (d_pickT rfl rfl (by first | rfl | assumption) rfl) ?_
    | refine c_pick (d_pickF rfl rfl (by first | rfl | assumption) rfl) ?_
    | refine c_pick (d_boxW rfl rfl rfl (by first | rfl | (simp only [cellsD]; rfl))) ?_
    | refine c_pick (d_call rfl (by kernel_rfl) rfl (by first | exact c1 | exact c2 | exact c3)) ?_
    | refine c_pick (d_not rfl rfl) ?_
    | refine c_passU rfl rfl ?_
    | refine c_passT rfl (by first | rfl | assumption) rfl ?_
    | refine c_passF rfl (by first | rfl | assumption) rfl ?_
    | refine c_pickY rfl (by first | rfl | assumption) (d_assignD rfl rfl) ?_
    | refine c_pickY rfl (by first | rfl | assumption) (d_moveD rfl rfl) ?_
    | refine c_pickY rfl (by first | rfl | assumption) (d_loadW rfl rfl rfl (by first | rfl | (simp only [cellsD]; rfl))) ?_
    | refine c_pickY rfl (by first | rfl | assumption) (d_loadBD rfl rfl rfl (by first | rfl | (simp only [cellsD]; rfl))) ?_
    | refine c_pickY rfl (by first | rfl | assumption) (d_bin2B rfl rfl rfl rfl) ?_
    | refine c_pickY rfl (by first | rfl | assumption) (d_pickT rfl rfl (by first | rfl | assumption) rfl) ?_
    | refine c_pickY rfl (by first | rfl | assumption) (d_pickF rfl rfl (by first | rfl | assumption) rfl) ?_
    | refine c_pickY rfl (by first | rfl | assumption) (d_boxW rfl rfl rfl (by first | rfl | (simp only [cellsD]; rfl))) ?_
    | refine c_pickY rfl (by first | rfl | assumption) (d_call rfl (by kernel_rfl) rfl (by first | exact c1 | exact c2 | exact c3)) ?_
    | refine c_pickY rfl (by first | rfl | assumption) (d_not rfl rfl) ?_
    | refine c_pickD rfl (by assumption) (d_assignD rfl rfl) ?_
    | refine c_pickD rfl (by assumption) (d_moveD rfl rfl) ?_
    | refine c_pickD rfl (by assumption) (d_loadW rfl rfl rfl (by first | rfl | (simp only [cellsD]; rfl))) ?_
    | refine c_pickD rfl (by assumption) (d_loadBD rfl rfl rfl (by first | rfl | (simp only [cellsD]; rfl))) ?_
    | refine c_pickD rfl (by assumption) (d_bin2B rfl rfl rfl rfl) ?_
    | refine c_pickD rfl (by assumption) (d_pickT rfl rfl (by first | rfl | assumption) rfl) ?_
    | refine c_pickD rfl (by assumption) (d_pickF rfl rfl (by first | rfl | assumption) rfl) ?_
    | refine c_pickD rfl (by assumption) (d_boxW rfl rfl rfl (by first | rfl | (simp only [cellsD]; rfl))) ?_
    | refine c_pickD rfl (by assumption) (d_call rfl (by kernel_rfl) rfl (by first | exact c1 | exact c2 | exact c3)) ?_
    | refine c_pickD rfl (by assumption) (d_not rfl rfl) ?_
    | refine c_splitT rfl rfl (fun h => ?_) (fun h => ?_)
    | refine c_splitF rfl rfl (fun h => ?_) (fun h => ?_)
    | fail)
    all_goals exact PLe.refl _
  | true =>
  cases o1 : ordV x with
  | false =>
    rw [o1] at c4
    refine pcall_of_run Try.func7 rfl Try.ntmps7 rfl (fun X => ?_)
    repeat' (first
    | refine run_seq ?_
    | (refine k_pick rfl ?_; first
      | refine k_assignD rfl rfl ?_
      | refine k_moveD rfl rfl ?_
      | refine k_loadW rfl rfl rfl (by first | rfl | (simp only [cellsD]; rfl)) ?_
      | refine k_loadBD rfl rfl rfl (by first | rfl | (simp only [cellsD]; rfl)) ?_
      | refine k_bin2B rfl rfl rfl rfl ?_
      | refine k_pickT rfl rfl (by first | rfl | assumption) rfl ?_
      | refine k_pickF rfl rfl (by first | rfl | assumption) rfl ?_
      | refine k_boxW rfl rfl rfl (by first | rfl | (simp only [cellsD]; rfl)) ?_
      | refine k_call rfl (by kernel_rfl) rfl (by first | exact c1 | exact c2 | exact c3 | exact c4 | exact c5 | exact c6) ?_
      | refine k_not rfl rfl ?_)
    | refine run_opsEnd ?_
    | refine run_region ?_
    | refine run_condT rfl (by first | rfl | assumption) ?_
    | refine run_condF rfl (by first | rfl | assumption) ?_
    | refine run_cond rfl (fun h => ?_) (fun h => ?_)
    | (refine k_guardY rfl rfl (by first | rfl | assumption) ?_; first
      | refine k_assignD rfl rfl ?_
      | refine k_moveD rfl rfl ?_
      | refine k_loadW rfl rfl rfl (by first | rfl | (simp only [cellsD]; rfl)) ?_
      | refine k_loadBD rfl rfl rfl (by first | rfl | (simp only [cellsD]; rfl)) ?_
      | refine k_bin2B rfl rfl rfl rfl ?_
      | refine k_pickT rfl rfl (by first | rfl | assumption) rfl ?_
      | refine k_pickF rfl rfl (by first | rfl | assumption) rfl ?_
      | refine k_boxW rfl rfl rfl (by first | rfl | (simp only [cellsD]; rfl)) ?_
      | refine k_call rfl (by kernel_rfl) rfl (by first | exact c1 | exact c2 | exact c3 | exact c4 | exact c5 | exact c6) ?_
      | refine k_not rfl rfl ?_)
    | refine k_guardU rfl rfl rfl ?_
    | refine k_guardNT rfl rfl (by first | rfl | assumption) rfl ?_
    | refine k_guardNF rfl rfl (by first | rfl | assumption) rfl ?_
    | refine k_guardT rfl rfl rfl (fun h => ?_) (fun h => ?_)
    | refine k_guardF rfl rfl rfl (fun h => ?_) (fun h => ?_)
    | refine run_block ?_
    | refine run_blkEnd ?_
    | refine run_skip ?_
    | refine run_exit rfl ?_
    | refine run_retOk (resOk_tmp rfl rfl ?_)
    | refine run_retOk (resOk_tmp2 rfl rfl rfl ?_ ?_)
    | refine run_retOk (resOk_cell rfl rfl rfl (by first | rfl | (simp only [cellsD]; rfl)) ?_)
    | refine run_retOk (resOk_cellTmp rfl rfl rfl (by first | rfl | (simp only [cellsD]; rfl)) rfl ?_ ?_)
    | (first
      | refine k_assignD rfl rfl ?_
      | refine k_moveD rfl rfl ?_
      | refine k_loadW rfl rfl rfl (by first | rfl | (simp only [cellsD]; rfl)) ?_
      | refine k_loadBD rfl rfl rfl (by first | rfl | (simp only [cellsD]; rfl)) ?_
      | refine k_bin2B rfl rfl rfl rfl ?_
      | refine k_pickT rfl rfl (by first | rfl | assumption) rfl ?_
      | refine k_pickF rfl rfl (by first | rfl | assumption) rfl ?_
      | refine k_boxW rfl rfl rfl (by first | rfl | (simp only [cellsD]; rfl)) ?_
      | refine k_call rfl (by kernel_rfl) rfl (by first | exact c1 | exact c2 | exact c3 | exact c4 | exact c5 | exact c6) ?_
      | refine k_not rfl rfl ?_)
    | refine run_drawC (by kernel_rfl) ?_
    | refine c_nil (And.intro (by kernel_rfl) ?_)
    | refine c_pick (d_assignD rfl rfl) ?_
    | refine c_pick (d_moveD rfl rfl) ?_
    | refine c_pick (d_loadW rfl rfl rfl (by first | rfl | (simp only [cellsD]; rfl))) ?_
    | refine c_pick (d_loadBD rfl rfl rfl (by first | rfl | (simp only [cellsD]; rfl))) ?_
    | refine c_pick (d_bin2B rfl rfl rfl rfl) ?_
    | refine c_pick (d_pickT rfl rfl (by first | rfl | assumption) rfl) ?_
    | refine c_pick (d_pickF rfl rfl (by first | rfl | assumption) rfl) ?_
    | refine c_pick (d_boxW rfl rfl rfl (by first | rfl | (simp only [cellsD]; rfl))) ?_
    | refine c_pick (d_call rfl (by kernel_rfl) rfl (by first | exact c1 | exact c2 | exact c3 | exact c4 | exact c5 | exact c6)) ?_
    | refine c_pick (d_not rfl rfl) ?_
    | refine c_passU rfl rfl ?_
    | refine c_passT rfl (by first | rfl | assumption) rfl ?_
    | refine c_passF rfl (by first | rfl | assumption) rfl ?_
    | refine c_pickY rfl (by first | rfl | assumption) (d_assignD rfl rfl) ?_
    | refine c_pickY rfl (by first | rfl | assumption) (d_moveD rfl rfl) ?_
    | refine c_pickY rfl (by first | rfl | assumption) (d_loadW rfl rfl rfl (by first | rfl | (simp only [cellsD]; rfl))) ?_
    | refine c_pickY rfl (by first | rfl | assumption) (d_loadBD rfl rfl rfl (by first | rfl | (simp only [cellsD]; rfl))) ?_
    | refine c_pickY rfl (by first | rfl | assumption) (d_bin2B rfl rfl rfl rfl) ?_
    | refine c_pickY rfl (by first | rfl | assumption) (d_pickT rfl rfl (by first | rfl | assumption) rfl) ?_
    | refine c_pickY rfl (by first | rfl | assumption) (d_pickF rfl rfl (by first | rfl | assumption) rfl) ?_
    | refine c_pickY rfl (by first | rfl | assumption) (d_boxW rfl rfl rfl (by first | rfl | (simp only [cellsD]; rfl))) ?_
    | refine c_pickY rfl (by first | rfl | assumption) (d_call rfl (by kernel_rfl) rfl (by first | exact c1 | exact c2 | exact c3 | exact c4 | exact c5 | exact c6)) ?_
    | refine c_pickY rfl (by first | rfl | assumption) (d_not rfl rfl) ?_
    | refine c_pickD rfl (by assumption) (d_assignD rfl rfl) ?_
    | refine c_pickD rfl (by assumption) (d_moveD rfl rfl) ?_
    | refine c_pickD rfl (by assumption) (d_loadW rfl rfl rfl (by first | rfl | (simp only [cellsD]; rfl))) ?_
    | refine c_pickD rfl (by assumption) (d_loadBD rfl rfl rfl (by first | rfl | (simp only [cellsD]; rfl))) ?_
    | refine c_pickD rfl (by assumption) (d_bin2B rfl rfl rfl rfl) ?_
    | refine c_pickD rfl (by assumption) (d_pickT rfl rfl (by first | rfl | assumption) rfl) ?_
    | refine c_pickD rfl (by assumption) (d_pickF rfl rfl (by first | rfl | assumption) rfl) ?_
    | refine c_pickD rfl (by assumption) (d_boxW rfl rfl rfl (by first | rfl | (simp only [cellsD]; rfl))) ?_
    | refine c_pickD rfl (by assumption) (d_call rfl (by kernel_rfl) rfl (by first | exact c1 | exact c2 | exact c3 | exact c4 | exact c5 | exact c6)) ?_
    | refine c_pickD rfl (by assumption) (d_not rfl rfl) ?_
    | refine c_splitT rfl rfl (fun h => ?_) (fun h => ?_)
    | refine c_splitF rfl rfl (fun h => ?_) (fun h => ?_)
    | fail)
    all_goals exact PLe.refl _
  | true =>
  cases o2 : ordV y with
  | false =>
    rw [o1] at c4
    rw [o2] at c5
    refine pcall_of_run Try.func7 rfl Try.ntmps7 rfl (fun X => ?_)
    repeat' (first
    | refine run_seq ?_
    | (refine k_pick rfl ?_; first
      | refine k_assignD rfl rfl ?_
      | refine k_moveD rfl rfl ?_
      | refine k_loadW rfl rfl rfl (by first | rfl | (simp only [cellsD]; rfl)) ?_
      | refine k_loadBD rfl rfl rfl (by first | rfl | (simp only [cellsD]; rfl)) ?_
      | refine k_bin2B rfl rfl rfl rfl ?_
      | refine k_pickT rfl rfl (by first | rfl | assumption) rfl ?_
      | refine k_pickF rfl rfl (by first | rfl | assumption) rfl ?_
      | refine k_boxW rfl rfl rfl (by first | rfl | (simp only [cellsD]; rfl)) ?_
      | refine k_call rfl (by kernel_rfl) rfl (by first | exact c1 | exact c2 | exact c3 | exact c4 | exact c5 | exact c6) ?_
      | refine k_not rfl rfl ?_)
    | refine run_opsEnd ?_
    | refine run_region ?_
    | refine run_condT rfl (by first | rfl | assumption) ?_
    | refine run_condF rfl (by first | rfl | assumption) ?_
    | refine run_cond rfl (fun h => ?_) (fun h => ?_)
    | (refine k_guardY rfl rfl (by first | rfl | assumption) ?_; first
      | refine k_assignD rfl rfl ?_
      | refine k_moveD rfl rfl ?_
      | refine k_loadW rfl rfl rfl (by first | rfl | (simp only [cellsD]; rfl)) ?_
      | refine k_loadBD rfl rfl rfl (by first | rfl | (simp only [cellsD]; rfl)) ?_
      | refine k_bin2B rfl rfl rfl rfl ?_
      | refine k_pickT rfl rfl (by first | rfl | assumption) rfl ?_
      | refine k_pickF rfl rfl (by first | rfl | assumption) rfl ?_
      | refine k_boxW rfl rfl rfl (by first | rfl | (simp only [cellsD]; rfl)) ?_
      | refine k_call rfl (by kernel_rfl) rfl (by first | exact c1 | exact c2 | exact c3 | exact c4 | exact c5 | exact c6) ?_
      | refine k_not rfl rfl ?_)
    | refine k_guardU rfl rfl rfl ?_
    | refine k_guardNT rfl rfl (by first | rfl | assumption) rfl ?_
    | refine k_guardNF rfl rfl (by first | rfl | assumption) rfl ?_
    | refine k_guardT rfl rfl rfl (fun h => ?_) (fun h => ?_)
    | refine k_guardF rfl rfl rfl (fun h => ?_) (fun h => ?_)
    | refine run_block ?_
    | refine run_blkEnd ?_
    | refine run_skip ?_
    | refine run_exit rfl ?_
    | refine run_retOk (resOk_tmp rfl rfl ?_)
    | refine run_retOk (resOk_tmp2 rfl rfl rfl ?_ ?_)
    | refine run_retOk (resOk_cell rfl rfl rfl (by first | rfl | (simp only [cellsD]; rfl)) ?_)
    | refine run_retOk (resOk_cellTmp rfl rfl rfl (by first | rfl | (simp only [cellsD]; rfl)) rfl ?_ ?_)
    | (first
      | refine k_assignD rfl rfl ?_
      | refine k_moveD rfl rfl ?_
      | refine k_loadW rfl rfl rfl (by first | rfl | (simp only [cellsD]; rfl)) ?_
      | refine k_loadBD rfl rfl rfl (by first | rfl | (simp only [cellsD]; rfl)) ?_
      | refine k_bin2B rfl rfl rfl rfl ?_
      | refine k_pickT rfl rfl (by first | rfl | assumption) rfl ?_
      | refine k_pickF rfl rfl (by first | rfl | assumption) rfl ?_
      | refine k_boxW rfl rfl rfl (by first | rfl | (simp only [cellsD]; rfl)) ?_
      | refine k_call rfl (by kernel_rfl) rfl (by first | exact c1 | exact c2 | exact c3 | exact c4 | exact c5 | exact c6) ?_
      | refine k_not rfl rfl ?_)
    | refine run_drawC (by kernel_rfl) ?_
    | refine c_nil (And.intro (by kernel_rfl) ?_)
    | refine c_pick (d_assignD rfl rfl) ?_
    | refine c_pick (d_moveD rfl rfl) ?_
    | refine c_pick (d_loadW rfl rfl rfl (by first | rfl | (simp only [cellsD]; rfl))) ?_
    | refine c_pick (d_loadBD rfl rfl rfl (by first | rfl | (simp only [cellsD]; rfl))) ?_
    | refine c_pick (d_bin2B rfl rfl rfl rfl) ?_
    | refine c_pick (d_pickT rfl rfl (by first | rfl | assumption) rfl) ?_
    | refine c_pick (d_pickF rfl rfl (by first | rfl | assumption) rfl) ?_
    | refine c_pick (d_boxW rfl rfl rfl (by first | rfl | (simp only [cellsD]; rfl))) ?_
    | refine c_pick (d_call rfl (by kernel_rfl) rfl (by first | exact c1 | exact c2 | exact c3 | exact c4 | exact c5 | exact c6)) ?_
    | refine c_pick (d_not rfl rfl) ?_
    | refine c_passU rfl rfl ?_
    | refine c_passT rfl (by first | rfl | assumption) rfl ?_
    | refine c_passF rfl (by first | rfl | assumption) rfl ?_
    | refine c_pickY rfl (by first | rfl | assumption) (d_assignD rfl rfl) ?_
    | refine c_pickY rfl (by first | rfl | assumption) (d_moveD rfl rfl) ?_
    | refine c_pickY rfl (by first | rfl | assumption) (d_loadW rfl rfl rfl (by first | rfl | (simp only [cellsD]; rfl))) ?_
    | refine c_pickY rfl (by first | rfl | assumption) (d_loadBD rfl rfl rfl (by first | rfl | (simp only [cellsD]; rfl))) ?_
    | refine c_pickY rfl (by first | rfl | assumption) (d_bin2B rfl rfl rfl rfl) ?_
    | refine c_pickY rfl (by first | rfl | assumption) (d_pickT rfl rfl (by first | rfl | assumption) rfl) ?_
    | refine c_pickY rfl (by first | rfl | assumption) (d_pickF rfl rfl (by first | rfl | assumption) rfl) ?_
    | refine c_pickY rfl (by first | rfl | assumption) (d_boxW rfl rfl rfl (by first | rfl | (simp only [cellsD]; rfl))) ?_
    | refine c_pickY rfl (by first | rfl | assumption) (d_call rfl (by kernel_rfl) rfl (by first | exact c1 | exact c2 | exact c3 | exact c4 | exact c5 | exact c6)) ?_
    | refine c_pickY rfl (by first | rfl | assumption) (d_not rfl rfl) ?_
    | refine c_pickD rfl (by assumption) (d_assignD rfl rfl) ?_
    | refine c_pickD rfl (by assumption) (d_moveD rfl rfl) ?_
    | refine c_pickD rfl (by assumption) (d_loadW rfl rfl rfl (by first | rfl | (simp only [cellsD]; rfl))) ?_
    | refine c_pickD rfl (by assumption) (d_loadBD rfl rfl rfl (by first | rfl | (simp only [cellsD]; rfl))) ?_
    | refine c_pickD rfl (by assumption) (d_bin2B rfl rfl rfl rfl) ?_
    | refine c_pickD rfl (by assumption) (d_pickT rfl rfl (by first | rfl | assumption) rfl) ?_
    | refine c_pickD rfl (by assumption) (d_pickF rfl rfl (by first | rfl | assumption) rfl) ?_
    | refine c_pickD rfl (by assumption) (d_boxW rfl rfl rfl (by first | rfl | (simp only [cellsD]; rfl))) ?_
    | refine c_pickD rfl (by assumption) (d_call rfl (by kernel_rfl) rfl (by first | exact c1 | exact c2 | exact c3 | exact c4 | exact c5 | exact c6)) ?_
    | refine c_pickD rfl (by assumption) (d_not rfl rfl) ?_
    | refine c_splitT rfl rfl (fun h => ?_) (fun h => ?_)
    | refine c_splitF rfl rfl (fun h => ?_) (fun h => ?_)
    | fail)
    all_goals exact PLe.refl _
  | true =>
  cases o3 : ordV z with
  | false =>
    rw [o1] at c4
    rw [o2] at c5
    rw [o3] at c6
    refine pcall_of_run Try.func7 rfl Try.ntmps7 rfl (fun X => ?_)
    repeat' (first
    | refine run_seq ?_
    | (refine k_pick rfl ?_; first
      | refine k_assignD rfl rfl ?_
      | refine k_moveD rfl rfl ?_
      | refine k_loadW rfl rfl rfl (by first | rfl | (simp only [cellsD]; rfl)) ?_
      | refine k_loadBD rfl rfl rfl (by first | rfl | (simp only [cellsD]; rfl)) ?_
      | refine k_bin2B rfl rfl rfl rfl ?_
      | refine k_pickT rfl rfl (by first | rfl | assumption) rfl ?_
      | refine k_pickF rfl rfl (by first | rfl | assumption) rfl ?_
      | refine k_boxW rfl rfl rfl (by first | rfl | (simp only [cellsD]; rfl)) ?_
      | refine k_call rfl (by kernel_rfl) rfl (by first | exact c1 | exact c2 | exact c3 | exact c4 | exact c5 | exact c6) ?_
      | refine k_not rfl rfl ?_)
    | refine run_opsEnd ?_
    | refine run_region ?_
    | refine run_condT rfl (by first | rfl | assumption) ?_
    | refine run_condF rfl (by first | rfl | assumption) ?_
    | refine run_cond rfl (fun h => ?_) (fun h => ?_)
    | (refine k_guardY rfl rfl (by first | rfl | assumption) ?_; first
      | refine k_assignD rfl rfl ?_
      | refine k_moveD rfl rfl ?_
      | refine k_loadW rfl rfl rfl (by first | rfl | (simp only [cellsD]; rfl)) ?_
      | refine k_loadBD rfl rfl rfl (by first | rfl | (simp only [cellsD]; rfl)) ?_
      | refine k_bin2B rfl rfl rfl rfl ?_
      | refine k_pickT rfl rfl (by first | rfl | assumption) rfl ?_
      | refine k_pickF rfl rfl (by first | rfl | assumption) rfl ?_
      | refine k_boxW rfl rfl rfl (by first | rfl | (simp only [cellsD]; rfl)) ?_
      | refine k_call rfl (by kernel_rfl) rfl (by first | exact c1 | exact c2 | exact c3 | exact c4 | exact c5 | exact c6) ?_
      | refine k_not rfl rfl ?_)
    | refine k_guardU rfl rfl rfl ?_
    | refine k_guardNT rfl rfl (by first | rfl | assumption) rfl ?_
    | refine k_guardNF rfl rfl (by first | rfl | assumption) rfl ?_
    | refine k_guardT rfl rfl rfl (fun h => ?_) (fun h => ?_)
    | refine k_guardF rfl rfl rfl (fun h => ?_) (fun h => ?_)
    | refine run_block ?_
    | refine run_blkEnd ?_
    | refine run_skip ?_
    | refine run_exit rfl ?_
    | refine run_retOk (resOk_tmp rfl rfl ?_)
    | refine run_retOk (resOk_tmp2 rfl rfl rfl ?_ ?_)
    | refine run_retOk (resOk_cell rfl rfl rfl (by first | rfl | (simp only [cellsD]; rfl)) ?_)
    | refine run_retOk (resOk_cellTmp rfl rfl rfl (by first | rfl | (simp only [cellsD]; rfl)) rfl ?_ ?_)
    | (first
      | refine k_assignD rfl rfl ?_
      | refine k_moveD rfl rfl ?_
      | refine k_loadW rfl rfl rfl (by first | rfl | (simp only [cellsD]; rfl)) ?_
      | refine k_loadBD rfl rfl rfl (by first | rfl | (simp only [cellsD]; rfl)) ?_
      | refine k_bin2B rfl rfl rfl rfl ?_
      | refine k_pickT rfl rfl (by first | rfl | assumption) rfl ?_
      | refine k_pickF rfl rfl (by first | rfl | assumption) rfl ?_
      | refine k_boxW rfl rfl rfl (by first | rfl | (simp only [cellsD]; rfl)) ?_
      | refine k_call rfl (by kernel_rfl) rfl (by first | exact c1 | exact c2 | exact c3 | exact c4 | exact c5 | exact c6) ?_
      | refine k_not rfl rfl ?_)
    | refine run_drawC (by kernel_rfl) ?_
    | refine c_nil (And.intro (by kernel_rfl) ?_)
    | refine c_pick (d_assignD rfl rfl) ?_
    | refine c_pick (d_moveD rfl rfl) ?_
    | refine c_pick (d_loadW rfl rfl rfl (by first | rfl | (simp only [cellsD]; rfl))) ?_
    | refine c_pick (d_loadBD rfl rfl rfl (by first | rfl | (simp only [cellsD]; rfl))) ?_
    | refine c_pick (d_bin2B rfl rfl rfl rfl) ?_
    | refine c_pick (d_pickT rfl rfl (by first | rfl | assumption) rfl) ?_
    | refine c_pick (d_pickF rfl rfl (by first | rfl | assumption) rfl) ?_
    | refine c_pick (d_boxW rfl rfl rfl (by first | rfl | (simp only [cellsD]; rfl))) ?_
    | refine c_pick (d_call rfl (by kernel_rfl) rfl (by first | exact c1 | exact c2 | exact c3 | exact c4 | exact c5 | exact c6)) ?_
    | refine c_pick (d_not rfl rfl) ?_
    | refine c_passU rfl rfl ?_
    | refine c_passT rfl (by first | rfl | assumption) rfl ?_
    | refine c_passF rfl (by first | rfl | assumption) rfl ?_
    | refine c_pickY rfl (by first | rfl | assumption) (d_assignD rfl rfl) ?_
    | refine c_pickY rfl (by first | rfl | assumption) (d_moveD rfl rfl) ?_
    | refine c_pickY rfl (by first | rfl | assumption) (d_loadW rfl rfl rfl (by first | rfl | (simp only [cellsD]; rfl))) ?_
    | refine c_pickY rfl (by first | rfl | assumption) (d_loadBD rfl rfl rfl (by first | rfl | (simp only [cellsD]; rfl))) ?_
    | refine c_pickY rfl (by first | rfl | assumption) (d_bin2B rfl rfl rfl rfl) ?_
    | refine c_pickY rfl (by first | rfl | assumption) (d_pickT rfl rfl (by first | rfl | assumption) rfl) ?_
    | refine c_pickY rfl (by first | rfl | assumption) (d_pickF rfl rfl (by first | rfl | assumption) rfl) ?_
    | refine c_pickY rfl (by first | rfl | assumption) (d_boxW rfl rfl rfl (by first | rfl | (simp only [cellsD]; rfl))) ?_
    | refine c_pickY rfl (by first | rfl | assumption) (d_call rfl (by kernel_rfl) rfl (by first | exact c1 | exact c2 | exact c3 | exact c4 | exact c5 | exact c6)) ?_
    | refine c_pickY rfl (by first | rfl | assumption) (d_not rfl rfl) ?_
    | refine c_pickD rfl (by assumption) (d_assignD rfl rfl) ?_
    | refine c_pickD rfl (by assumption) (d_moveD rfl rfl) ?_
    | refine c_pickD rfl (by assumption) (d_loadW rfl rfl rfl (by first | rfl | (simp only [cellsD]; rfl))) ?_
    | refine c_pickD rfl (by assumption) (d_loadBD rfl rfl rfl (by first | rfl | (simp only [cellsD]; rfl))) ?_
    | refine c_pickD rfl (by assumption) (d_bin2B rfl rfl rfl rfl) ?_
    | refine c_pickD rfl (by assumption) (d_pickT rfl rfl (by first | rfl | assumption) rfl) ?_
    | refine c_pickD rfl (by assumption) (d_pickF rfl rfl (by first | rfl | assumption) rfl) ?_
    | refine c_pickD rfl (by assumption) (d_boxW rfl rfl rfl (by first | rfl | (simp only [cellsD]; rfl))) ?_
    | refine c_pickD rfl (by assumption) (d_call rfl (by kernel_rfl) rfl (by first | exact c1 | exact c2 | exact c3 | exact c4 | exact c5 | exact c6)) ?_
    | refine c_pickD rfl (by assumption) (d_not rfl rfl) ?_
    | refine c_splitT rfl rfl (fun h => ?_) (fun h => ?_)
    | refine c_splitF rfl rfl (fun h => ?_) (fun h => ?_)
    | fail)
    all_goals exact PLe.refl _
  | true =>
  rw [o1] at c4
  rw [o2] at c5
  rw [o3] at c6
  have w1 := OG_clean f1 o1
  have w2 := OG_clean f2 o2
  have w3 := OG_clean f3 o3
  have k1 := implEq_p x x
  have k2 := implEq_p x y
  have e1 : eqJ (plainJ x) (plainJ x) = true := by rw [eqVG f1 f1]; exact (eqP_iff _ _ w1 w1).2 (cmpP_same _)
  have e3 : eqJ (plainJ z) (plainJ z) = true := by rw [eqVG f3 f3]; exact (eqP_iff _ _ w3 w3).2 (cmpP_same _)
  rw [e1] at k1
  cases e2 : eqJ (plainJ x) (plainJ y) with
  | false =>
    rw [e2] at k2
    refine pcall_of_run Try.func7 rfl Try.ntmps7 rfl (fun X => ?_)
    repeat' (first
    | refine run_seq ?_
    | (refine k_pick rfl ?_; first
      | refine k_assignD rfl rfl ?_
      | refine k_moveD rfl rfl ?_
      | refine k_loadW rfl rfl rfl (by first | rfl | (simp only [cellsD]; rfl)) ?_
      | refine k_loadBD rfl rfl rfl (by first | rfl | (simp only [cellsD]; rfl)) ?_
      | refine k_bin2B rfl rfl rfl rfl ?_
      | refine k_pickT rfl rfl (by first | rfl | assumption) rfl ?_
      | refine k_pickF rfl rfl (by first | rfl | assumption) rfl ?_
      | refine k_boxW rfl rfl rfl (by first | rfl | (simp only [cellsD]; rfl)) ?_
      | refine k_call rfl (by kernel_rfl) rfl (by first | exact c1 | exact c2 | exact c3 | exact c4 | exact c5 | exact c6 | exact k1 | exact k2) ?_
      | refine k_not rfl rfl ?_)
    | refine run_opsEnd ?_
    | refine run_region ?_
    | refine run_condT rfl (by first | rfl | assumption) ?_
    | refine run_condF rfl (by first | rfl | assumption) ?_
    | refine run_cond rfl (fun h => ?_) (fun h => ?_)
    | (refine k_guardY rfl rfl (by first | rfl | assumption) ?_; first
      | refine k_assignD rfl rfl ?_
      | refine k_moveD rfl rfl ?_
      | refine k_loadW rfl rfl rfl (by first | rfl | (simp only [cellsD]; rfl)) ?_
      | refine k_loadBD rfl rfl rfl (by first | rfl | (simp only [cellsD]; rfl)) ?_
      | refine k_bin2B rfl rfl rfl rfl ?_
      | refine k_pickT rfl rfl (by first | rfl | assumption) rfl ?_
      | refine k_pickF rfl rfl (by first | rfl | assumption) rfl ?_
      | refine k_boxW rfl rfl rfl (by first | rfl | (simp only [cellsD]; rfl)) ?_
      | refine k_call rfl (by kernel_rfl) rfl (by first | exact c1 | exact c2 | exact c3 | exact c4 | exact c5 | exact c6 | exact k1 | exact k2) ?_
      | refine k_not rfl rfl ?_)
    | refine k_guardU rfl rfl rfl ?_
    | refine k_guardNT rfl rfl (by first | rfl | assumption) rfl ?_
    | refine k_guardNF rfl rfl (by first | rfl | assumption) rfl ?_
    | refine k_guardT rfl rfl rfl (fun h => ?_) (fun h => ?_)
    | refine k_guardF rfl rfl rfl (fun h => ?_) (fun h => ?_)
    | refine run_block ?_
    | refine run_blkEnd ?_
    | refine run_skip ?_
    | refine run_exit rfl ?_
    | refine run_retOk (resOk_tmp rfl rfl ?_)
    | refine run_retOk (resOk_tmp2 rfl rfl rfl ?_ ?_)
    | refine run_retOk (resOk_cell rfl rfl rfl (by first | rfl | (simp only [cellsD]; rfl)) ?_)
    | refine run_retOk (resOk_cellTmp rfl rfl rfl (by first | rfl | (simp only [cellsD]; rfl)) rfl ?_ ?_)
    | (first
      | refine k_assignD rfl rfl ?_
      | refine k_moveD rfl rfl ?_
      | refine k_loadW rfl rfl rfl (by first | rfl | (simp only [cellsD]; rfl)) ?_
      | refine k_loadBD rfl rfl rfl (by first | rfl | (simp only [cellsD]; rfl)) ?_
      | refine k_bin2B rfl rfl rfl rfl ?_
      | refine k_pickT rfl rfl (by first | rfl | assumption) rfl ?_
      | refine k_pickF rfl rfl (by first | rfl | assumption) rfl ?_
      | refine k_boxW rfl rfl rfl (by first | rfl | (simp only [cellsD]; rfl)) ?_
      | refine k_call rfl (by kernel_rfl) rfl (by first | exact c1 | exact c2 | exact c3 | exact c4 | exact c5 | exact c6 | exact k1 | exact k2) ?_
      | refine k_not rfl rfl ?_)
    | refine run_drawC (by kernel_rfl) ?_
    | refine c_nil (And.intro (by kernel_rfl) ?_)
    | refine c_pick (d_assignD rfl rfl) ?_
    | refine c_pick (d_moveD rfl rfl) ?_
    | refine c_pick (d_loadW rfl rfl rfl (by first | rfl | (simp only [cellsD]; rfl))) ?_
    | refine c_pick (d_loadBD rfl rfl rfl (by first | rfl | (simp only [cellsD]; rfl))) ?_
    | refine c_pick (d_bin2B rfl rfl rfl rfl) ?_
    | refine c_pick (d_pickT rfl rfl (by first | rfl | assumption) rfl) ?_
    | refine c_pick (d_pickF rfl rfl (by first | rfl | assumption) rfl) ?_
    | refine c_pick (d_boxW rfl rfl rfl (by first | rfl | (simp only [cellsD]; rfl))) ?_
    | refine c_pick (d_call rfl (by kernel_rfl) rfl (by first | exact c1 | exact c2 | exact c3 | exact c4 | exact c5 | exact c6 | exact k1 | exact k2)) ?_
    | refine c_pick (d_not rfl rfl) ?_
    | refine c_passU rfl rfl ?_
    | refine c_passT rfl (by first | rfl | assumption) rfl ?_
    | refine c_passF rfl (by first | rfl | assumption) rfl ?_
    | refine c_pickY rfl (by first | rfl | assumption) (d_assignD rfl rfl) ?_
    | refine c_pickY rfl (by first | rfl | assumption) (d_moveD rfl rfl) ?_
    | refine c_pickY rfl (by first | rfl | assumption) (d_loadW rfl rfl rfl (by first | rfl | (simp only [cellsD]; rfl))) ?_
    | refine c_pickY rfl (by first | rfl | assumption) (d_loadBD rfl rfl rfl (by first | rfl | (simp only [cellsD]; rfl))) ?_
    | refine c_pickY rfl (by first | rfl | assumption) (d_bin2B rfl rfl rfl rfl) ?_
    | refine c_pickY rfl (by first | rfl | assumption) (d_pickT rfl rfl (by first | rfl | assumption) rfl) ?_
    | refine c_pickY rfl (by first | rfl | assumption) (d_pickF rfl rfl (by first | rfl | assumption) rfl) ?_
    | refine c_pickY rfl (by first | rfl | assumption) (d_boxW rfl rfl rfl (by first | rfl | (simp only [cellsD]; rfl))) ?_
    | refine c_pickY rfl (by first | rfl | assumption) (d_call rfl (by kernel_rfl) rfl (by first | exact c1 | exact c2 | exact c3 | exact c4 | exact c5 | exact c6 | exact k1 | exact k2)) ?_
    | refine c_pickY rfl (by first | rfl | assumption) (d_not rfl rfl) ?_
    | refine c_pickD rfl (by assumption) (d_assignD rfl rfl) ?_
    | refine c_pickD rfl (by assumption) (d_moveD rfl rfl) ?_
    | refine c_pickD rfl (by assumption) (d_loadW rfl rfl rfl (by first | rfl | (simp only [cellsD]; rfl))) ?_
    | refine c_pickD rfl (by assumption) (d_loadBD rfl rfl rfl (by first | rfl | (simp only [cellsD]; rfl))) ?_
    | refine c_pickD rfl (by assumption) (d_bin2B rfl rfl rfl rfl) ?_
    | refine c_pickD rfl (by assumption) (d_pickT rfl rfl (by first | rfl | assumption) rfl) ?_
    | refine c_pickD rfl (by assumption) (d_pickF rfl rfl (by first | rfl | assumption) rfl) ?_
    | refine c_pickD rfl (by assumption) (d_boxW rfl rfl rfl (by first | rfl | (simp only [cellsD]; rfl))) ?_
    | refine c_pickD rfl (by assumption) (d_call rfl (by kernel_rfl) rfl (by first | exact c1 | exact c2 | exact c3 | exact c4 | exact c5 | exact c6 | exact k1 | exact k2)) ?_
    | refine c_pickD rfl (by assumption) (d_not rfl rfl) ?_
    | refine c_splitT rfl rfl (fun h => ?_) (fun h => ?_)
    | refine c_splitF rfl rfl (fun h => ?_) (fun h => ?_)
    | fail)
    all_goals exact PLe.refl _
  | true =>
  rw [e2] at k2
  have hxy : cmpP (cleanV x) (cleanV y) = 0 := (eqP_iff _ _ w1 w2).1 (by rw [← eqVG f1 f2]; exact e2)
  have t1 := (tri_P _ _ _ w1 w2 w3).zp hxy
  have t2 := (tri_P _ _ _ (OG_two w3 w1) (OG_two w3 w2) w3).zp (cmp_two _ hxy)
  have k3 := list_p [z, x]
  have k4 := list_p [z, y]
  have k5 := fields_p [⟨#[107]⟩] [x]
  have k6 := fields_p [⟨#[107]⟩] [y]
  have k7 := implCmp_p x z
  have k8 := implCmp_p y z
  have k9 := implEq_p (.mk 5 0 0 ByteArray.empty [] [z, x]) (.mk 5 0 0 ByteArray.empty [] [z, y])
  have k10 := implEq_p (.mk 6 0 0 ByteArray.empty [⟨#[107]⟩] [x]) (.mk 6 0 0 ByteArray.empty [⟨#[107]⟩] [y])
  have k11 := implCmp_p (.mk 5 0 0 ByteArray.empty [] [z, x]) z
  have k12 := implCmp_p (.mk 5 0 0 ByteArray.empty [] [z, y]) z
  have k13 := implCmp_p (.mk 6 0 0 ByteArray.empty [⟨#[107]⟩] [x]) z
  have k14 := implCmp_p (.mk 6 0 0 ByteArray.empty [⟨#[107]⟩] [y]) z
  have p1 : ∀ u : GV, plainJ (.mk 5 0 0 ByteArray.empty [] [z, u]) = .list [plainJ z, plainJ u] := fun u => by simp [plainJ, plainJs]
  have p2 : ∀ u : GV, plainJ (.mk 6 0 0 ByteArray.empty [⟨#[107]⟩] [u]) = .map [(⟨#[107]⟩, plainJ u)] := fun u => by simp [plainJ, plainM, putA]
  rw [p1, p1, eqJ_lists e3 e2] at k9
  rw [p2, p2, eqJ_maps _ e2] at k10
  rw [clean_two] at k11 k12
  rw [clean_one] at k13 k14
  have t3 : cmpP (.mk 6 0 0 ByteArray.empty [⟨#[107]⟩] [cleanV x]) (cleanV z) = cmpP (.mk 6 0 0 ByteArray.empty [⟨#[107]⟩] [cleanV y]) (cleanV z) := (tri_P _ _ _ (OG_one _ w1) (OG_one _ w2) w3).zp (cmp_one _ hxy)
  rw [t1] at k7
  rw [t2] at k11
  rw [t3] at k13
  have v1 : pdVs [z, x] = [qV z, qV x] := by simp only [pdVs]; rw [pdV_eq, pdV_eq]; rfl
  have v2 : pdVs [z, y] = [qV z, qV y] := by simp only [pdVs]; rw [pdV_eq, pdV_eq]; rfl
  have v3 : pdVs [x] = [qV x] := by simp only [pdVs]; rw [pdV_eq]; rfl
  have v4 : pdVs [y] = [qV y] := by simp only [pdVs]; rw [pdV_eq]; rfl
  have v5 : pdS [⟨#[107]⟩] = [.val (.string ⟨#[107]⟩)] := rfl
  rw [v1] at k3
  rw [v2] at k4
  rw [v3, v5] at k5
  rw [v4, v5] at k6
  generalize cmpP (cleanV y) (cleanV z) = d1 at *
  generalize cmpP (.mk 5 0 0 ByteArray.empty [] [cleanV z, cleanV y]) (cleanV z) = d2 at *
  generalize cmpP (.mk 6 0 0 ByteArray.empty [⟨#[107]⟩] [cleanV y]) (cleanV z) = d3 at *
  clear p1 p2 v1 v2 v3 v4 v5 t1 t2 t3 w1 w2 w3 hxy e1 e2 e3 o1 o2 o3 f1 f2 f3
  generalize (GV.mk 5 0 0 ByteArray.empty [] [z, x]) = la at *
  generalize (GV.mk 5 0 0 ByteArray.empty [] [z, y]) = lb at *
  generalize (GV.mk 6 0 0 ByteArray.empty [⟨#[107]⟩] [x]) = ma at *
  generalize (GV.mk 6 0 0 ByteArray.empty [⟨#[107]⟩] [y]) = mb at *
  have g1 : decide (d1 = d1) = true := decide_eq_true rfl
  have g2 : decide (d2 = d2) = true := decide_eq_true rfl
  have g3 : decide (d3 = d3) = true := decide_eq_true rfl
  refine pcall_of_run Try.func7 rfl Try.ntmps7 rfl (fun X => ?_)
  repeat' (first
    | refine run_seq ?_
    | (refine k_pick rfl ?_; first
      | refine k_buildSliceF rfl (by kernel_rfl) rfl rfl rfl rfl rfl ?_
      | refine k_assignD rfl rfl ?_
      | refine k_moveD rfl rfl ?_
      | refine k_loadW rfl rfl rfl (by first | rfl | (simp only [cellsD]; rfl)) ?_
      | refine k_loadBD rfl rfl rfl (by first | rfl | (simp only [cellsD]; rfl)) ?_
      | refine k_bin2B rfl rfl rfl rfl ?_
      | refine k_pickT rfl rfl (by first | rfl | assumption) rfl ?_
      | refine k_pickF rfl rfl (by first | rfl | assumption) rfl ?_
      | refine k_boxW rfl rfl rfl (by first | rfl | (simp only [cellsD]; rfl)) ?_
      | refine k_call rfl (by kernel_rfl) rfl (by first | exact c1 | exact c2 | exact c3 | exact c4 | exact c5 | exact c6 | exact k1 | exact k2 | exact k3 | exact k4 | exact k5 | exact k6 | exact k7 | exact k8 | exact k9 | exact k10 | exact k11 | exact k12 | exact k13 | exact k14) ?_
      | refine k_not rfl rfl ?_
      | refine k_storeB rfl rfl rfl rfl rfl ?_
      | refine k_storeW rfl rfl rfl (by first | rfl | (simp only [cellsD]; rfl)) (by first | rfl | (simp only [cellsD]; rfl)) rfl ?_
      | refine k_alloc rfl rfl ?_)
    | refine run_opsEnd ?_
    | refine run_region ?_
    | refine run_condT rfl (by first | rfl | assumption) ?_
    | refine run_condF rfl (by first | rfl | assumption) ?_
    | refine run_cond rfl (fun h => ?_) (fun h => ?_)
    | (refine k_guardY rfl rfl (by first | rfl | assumption) ?_; first
      | refine k_buildSliceF rfl (by kernel_rfl) rfl rfl rfl rfl rfl ?_
      | refine k_assignD rfl rfl ?_
      | refine k_moveD rfl rfl ?_
      | refine k_loadW rfl rfl rfl (by first | rfl | (simp only [cellsD]; rfl)) ?_
      | refine k_loadBD rfl rfl rfl (by first | rfl | (simp only [cellsD]; rfl)) ?_
      | refine k_bin2B rfl rfl rfl rfl ?_
      | refine k_pickT rfl rfl (by first | rfl | assumption) rfl ?_
      | refine k_pickF rfl rfl (by first | rfl | assumption) rfl ?_
      | refine k_boxW rfl rfl rfl (by first | rfl | (simp only [cellsD]; rfl)) ?_
      | refine k_call rfl (by kernel_rfl) rfl (by first | exact c1 | exact c2 | exact c3 | exact c4 | exact c5 | exact c6 | exact k1 | exact k2 | exact k3 | exact k4 | exact k5 | exact k6 | exact k7 | exact k8 | exact k9 | exact k10 | exact k11 | exact k12 | exact k13 | exact k14) ?_
      | refine k_not rfl rfl ?_
      | refine k_storeB rfl rfl rfl rfl rfl ?_
      | refine k_storeW rfl rfl rfl (by first | rfl | (simp only [cellsD]; rfl)) (by first | rfl | (simp only [cellsD]; rfl)) rfl ?_
      | refine k_alloc rfl rfl ?_)
    | refine k_guardU rfl rfl rfl ?_
    | refine k_guardNT rfl rfl (by first | rfl | assumption) rfl ?_
    | refine k_guardNF rfl rfl (by first | rfl | assumption) rfl ?_
    | refine k_guardT rfl rfl rfl (fun h => ?_) (fun h => ?_)
    | refine k_guardF rfl rfl rfl (fun h => ?_) (fun h => ?_)
    | refine run_block ?_
    | refine run_blkEnd ?_
    | refine run_skip ?_
    | refine run_exit rfl ?_
    | refine run_retOk (resOk_tmp rfl rfl ?_)
    | refine run_retOk (resOk_tmp2 rfl rfl rfl ?_ ?_)
    | refine run_retOk (resOk_cell rfl rfl rfl (by first | rfl | (simp only [cellsD]; rfl)) ?_)
    | refine run_retOk (resOk_cellTmp rfl rfl rfl (by first | rfl | (simp only [cellsD]; rfl)) rfl ?_ ?_)
    | (first
      | refine k_buildSliceF rfl (by kernel_rfl) rfl rfl rfl rfl rfl ?_
      | refine k_assignD rfl rfl ?_
      | refine k_moveD rfl rfl ?_
      | refine k_loadW rfl rfl rfl (by first | rfl | (simp only [cellsD]; rfl)) ?_
      | refine k_loadBD rfl rfl rfl (by first | rfl | (simp only [cellsD]; rfl)) ?_
      | refine k_bin2B rfl rfl rfl rfl ?_
      | refine k_pickT rfl rfl (by first | rfl | assumption) rfl ?_
      | refine k_pickF rfl rfl (by first | rfl | assumption) rfl ?_
      | refine k_boxW rfl rfl rfl (by first | rfl | (simp only [cellsD]; rfl)) ?_
      | refine k_call rfl (by kernel_rfl) rfl (by first | exact c1 | exact c2 | exact c3 | exact c4 | exact c5 | exact c6 | exact k1 | exact k2 | exact k3 | exact k4 | exact k5 | exact k6 | exact k7 | exact k8 | exact k9 | exact k10 | exact k11 | exact k12 | exact k13 | exact k14) ?_
      | refine k_not rfl rfl ?_
      | refine k_storeB rfl rfl rfl rfl rfl ?_
      | refine k_storeW rfl rfl rfl (by first | rfl | (simp only [cellsD]; rfl)) (by first | rfl | (simp only [cellsD]; rfl)) rfl ?_
      | refine k_alloc rfl rfl ?_)
    | refine run_drawC (by kernel_rfl) ?_
    | refine c_nil (And.intro (by kernel_rfl) ?_)
    | refine c_pick (d_buildSliceF rfl (by kernel_rfl) rfl rfl rfl rfl rfl) ?_
    | refine c_pick (d_assignD rfl rfl) ?_
    | refine c_pick (d_moveD rfl rfl) ?_
    | refine c_pick (d_loadW rfl rfl rfl (by first | rfl | (simp only [cellsD]; rfl))) ?_
    | refine c_pick (d_loadBD rfl rfl rfl (by first | rfl | (simp only [cellsD]; rfl))) ?_
    | refine c_pick (d_bin2B rfl rfl rfl rfl) ?_
    | refine c_pick (d_pickT rfl rfl (by first | rfl | assumption) rfl) ?_
    | refine c_pick (d_pickF rfl rfl (by first | rfl | assumption) rfl) ?_
    | refine c_pick (d_boxW rfl rfl rfl (by first | rfl | (simp only [cellsD]; rfl))) ?_
    | refine c_pick (d_call rfl (by kernel_rfl) rfl (by first | exact c1 | exact c2 | exact c3 | exact c4 | exact c5 | exact c6 | exact k1 | exact k2 | exact k3 | exact k4 | exact k5 | exact k6 | exact k7 | exact k8 | exact k9 | exact k10 | exact k11 | exact k12 | exact k13 | exact k14)) ?_
    | refine c_pick (d_not rfl rfl) ?_
    | refine c_pick (d_storeB rfl rfl rfl rfl rfl) ?_
    | refine c_pick (d_storeW rfl rfl rfl (by first | rfl | (simp only [cellsD]; rfl)) (by first | rfl | (simp only [cellsD]; rfl)) rfl) ?_
    | refine c_pick (d_alloc rfl rfl) ?_
    | refine c_passU rfl rfl ?_
    | refine c_passT rfl (by first | rfl | assumption) rfl ?_
    | refine c_passF rfl (by first | rfl | assumption) rfl ?_
    | refine c_pickY rfl (by first | rfl | assumption) (d_buildSliceF rfl (by kernel_rfl) rfl rfl rfl rfl rfl) ?_
    | refine c_pickY rfl (by first | rfl | assumption) (d_assignD rfl rfl) ?_
    | refine c_pickY rfl (by first | rfl | assumption) (d_moveD rfl rfl) ?_
    | refine c_pickY rfl (by first | rfl | assumption) (d_loadW rfl rfl rfl (by first | rfl | (simp only [cellsD]; rfl))) ?_
    | refine c_pickY rfl (by first | rfl | assumption) (d_loadBD rfl rfl rfl (by first | rfl | (simp only [cellsD]; rfl))) ?_
    | refine c_pickY rfl (by first | rfl | assumption) (d_bin2B rfl rfl rfl rfl) ?_
    | refine c_pickY rfl (by first | rfl | assumption) (d_pickT rfl rfl (by first | rfl | assumption) rfl) ?_
    | refine c_pickY rfl (by first | rfl | assumption) (d_pickF rfl rfl (by first | rfl | assumption) rfl) ?_
    | refine c_pickY rfl (by first | rfl | assumption) (d_boxW rfl rfl rfl (by first | rfl | (simp only [cellsD]; rfl))) ?_
    | refine c_pickY rfl (by first | rfl | assumption) (d_call rfl (by kernel_rfl) rfl (by first | exact c1 | exact c2 | exact c3 | exact c4 | exact c5 | exact c6 | exact k1 | exact k2 | exact k3 | exact k4 | exact k5 | exact k6 | exact k7 | exact k8 | exact k9 | exact k10 | exact k11 | exact k12 | exact k13 | exact k14)) ?_
    | refine c_pickY rfl (by first | rfl | assumption) (d_not rfl rfl) ?_
    | refine c_pickY rfl (by first | rfl | assumption) (d_storeB rfl rfl rfl rfl rfl) ?_
    | refine c_pickY rfl (by first | rfl | assumption) (d_storeW rfl rfl rfl (by first | rfl | (simp only [cellsD]; rfl)) (by first | rfl | (simp only [cellsD]; rfl)) rfl) ?_
    | refine c_pickY rfl (by first | rfl | assumption) (d_alloc rfl rfl) ?_
    | refine c_pickD rfl (by assumption) (d_buildSliceF rfl (by kernel_rfl) rfl rfl rfl rfl rfl) ?_
    | refine c_pickD rfl (by assumption) (d_assignD rfl rfl) ?_
    | refine c_pickD rfl (by assumption) (d_moveD rfl rfl) ?_
    | refine c_pickD rfl (by assumption) (d_loadW rfl rfl rfl (by first | rfl | (simp only [cellsD]; rfl))) ?_
    | refine c_pickD rfl (by assumption) (d_loadBD rfl rfl rfl (by first | rfl | (simp only [cellsD]; rfl))) ?_
    | refine c_pickD rfl (by assumption) (d_bin2B rfl rfl rfl rfl) ?_
    | refine c_pickD rfl (by assumption) (d_pickT rfl rfl (by first | rfl | assumption) rfl) ?_
    | refine c_pickD rfl (by assumption) (d_pickF rfl rfl (by first | rfl | assumption) rfl) ?_
    | refine c_pickD rfl (by assumption) (d_boxW rfl rfl rfl (by first | rfl | (simp only [cellsD]; rfl))) ?_
    | refine c_pickD rfl (by assumption) (d_call rfl (by kernel_rfl) rfl (by first | exact c1 | exact c2 | exact c3 | exact c4 | exact c5 | exact c6 | exact k1 | exact k2 | exact k3 | exact k4 | exact k5 | exact k6 | exact k7 | exact k8 | exact k9 | exact k10 | exact k11 | exact k12 | exact k13 | exact k14)) ?_
    | refine c_pickD rfl (by assumption) (d_not rfl rfl) ?_
    | refine c_pickD rfl (by assumption) (d_storeB rfl rfl rfl rfl rfl) ?_
    | refine c_pickD rfl (by assumption) (d_storeW rfl rfl rfl (by first | rfl | (simp only [cellsD]; rfl)) (by first | rfl | (simp only [cellsD]; rfl)) rfl) ?_
    | refine c_pickD rfl (by assumption) (d_alloc rfl rfl) ?_
    | refine c_splitT rfl rfl (fun h => ?_) (fun h => ?_)
    | refine c_splitF rfl rfl (fun h => ?_) (fun h => ?_)
    | fail)
  all_goals first | exact PLe.refl _ | exact PLe.of_eq (by rw [g3])
end Go.Proofs.Ytbbacpdbbmjblaa
end
