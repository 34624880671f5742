import Derived.Test.YtlghpcokbppkfaaValO
set_option linter.unusedVariables false
/- value.EqualsUsing, value.Equals. -/
namespace Go.Proofs.Ytlghpcokbppkfaa
open Go.RowKit
set_option linter.unusedSimpArgs false

set_option maxHeartbeats 40000000 in
theorem eqOth_p (j k : JV) (hl : (j.IsList && k.IsList) = false) (hm : (j.IsMap && k.IsMap) = false) : PCall Try.prog 130 [dvA, dvV j, dvV k] (.val (.bool (eqJ j k))) := by
  by_cases hnum : (j.IsInt || j.IsFloat) = true ∧ (k.IsInt || k.IsFloat) = true
  · exact eqNum_p j k hnum.1 hnum.2
  refine pcall_of_run Try.func130 rfl Try.ntmps130 rfl (fun X => ?_)
  cases j <;> cases k
  all_goals first
    | exact absurd hl (fun h => Bool.noConfusion h)
    | exact absurd hm (fun h => Bool.noConfusion h)
    | exact absurd ⟨rfl, rfl⟩ hnum
    | skip
  all_goals clear hl hm hnum
  all_goals
    repeat' (first
    | refine run_seq ?_
    | (refine k_pick rfl ?_; first | refine k_assignD rfl rfl ?_ | refine k_moveD rfl rfl ?_ | refine k_bin2B rfl rfl rfl rfl ?_ | refine k_pickT rfl rfl (by first | rfl | assumption) rfl ?_ | refine k_pickF rfl rfl (by first | rfl | assumption) rfl ?_ | refine k_cmpBool rfl rfl rfl (by kernel_rfl) rfl ?_ | refine k_invD rfl rfl rfl (by kernel_rfl) rfl (by first | exact IsFloat_p _ | exact IsInt_p _ | exact IsString_p _ | exact IsBool_p _ | exact IsList_p _ | exact IsMap_p _ | exact IsNull_p _ | exact AsString_p _ | exact AsBool_p _ | exact AsFloat_p _ | exact AsInt_p _) ?_)
    | refine run_opsEnd ?_
    | refine run_region ?_
    | refine run_condT rfl (by first | rfl | assumption) ?_
    | refine run_condF rfl (by first | rfl | assumption) ?_
    | (refine k_guardY rfl rfl (by first | rfl | assumption) ?_; first | refine k_moveD rfl rfl ?_ | refine k_invD rfl rfl rfl (by kernel_rfl) rfl (by first | exact IsFloat_p _ | exact IsInt_p _ | exact IsString_p _ | exact IsBool_p _ | exact IsList_p _ | exact IsMap_p _ | exact IsNull_p _ | exact AsString_p _ | exact AsBool_p _ | exact AsFloat_p _ | exact AsInt_p _) ?_)
    | refine k_guardNF rfl rfl (by first | rfl | assumption) rfl ?_
    | refine run_skip ?_
    | refine run_retOk (resOk_tmp rfl rfl ?_)
    | fail)
  all_goals exact PLe.of_eq (by unfold eqJ; rfl)
set_option maxHeartbeats 4000000 in
theorem eqList_p (l q : List JV) (hE : ∀ x ∈ l, ∀ y ∈ q, PCall Try.prog 130 [dvA, dvV x, dvV y] (.val (.bool (eqJ x y)))) : PCall Try.prog 130 [dvA, dvV (.list l), dvV (.list q)] (.val (.bool (eqJ (.list l) (.list q)))) := by
  have hC := lstEq_p l q hE
  rw [show eqJ (.list l) (.list q) = eqJs l q by unfold eqJ; rfl]
  refine pcall_of_run Try.func130 rfl Try.ntmps130 rfl (fun X => ?_)
  repeat' (first
    | refine run_seq ?_
    | (refine k_pick rfl ?_; first | refine k_assignD rfl rfl ?_ | refine k_moveD rfl rfl ?_ | refine k_pickF rfl rfl (by first | rfl | assumption) rfl ?_ | refine k_invD rfl rfl rfl (by kernel_rfl) rfl (by first | exact IsFloat_p _ | exact IsInt_p _ | exact IsString_p _ | exact IsBool_p _ | exact IsList_p _ | exact asList_p _ | exact hC) ?_ | refine k_invS rfl rfl (by kernel_rfl) rfl (by first | exact IsFloat_p _ | exact IsInt_p _ | exact IsString_p _ | exact IsBool_p _ | exact IsList_p _ | exact asList_p _ | exact hC) ?_ | refine k_nilI rfl rfl ?_ | refine k_deferA rfl free_idle ?_)
    | refine run_opsEnd ?_
    | refine run_region ?_
    | refine run_condT rfl (by first | rfl | assumption) ?_
    | refine run_condF rfl (by first | rfl | assumption) ?_
    | (refine k_guardY rfl rfl (by first | rfl | assumption) ?_; first | refine k_moveD rfl rfl ?_ | refine k_invD rfl rfl rfl (by kernel_rfl) rfl (by first | exact IsFloat_p _ | exact IsInt_p _ | exact IsString_p _ | exact IsBool_p _ | exact IsList_p _ | exact asList_p _ | exact hC) ?_)
    | refine run_skip ?_
    | refine run_retOk (resOk_tmp rfl rfl ?_)
    | fail)
  all_goals exact PLe.refl _
set_option maxHeartbeats 4000000 in
theorem eqMap_p (m q : List (ByteArray × JV)) (hE : ∀ y ∈ q, ∀ x, lkJ m y.1 = some x → PCall Try.prog 130 [dvA, dvV x, dvV y.2] (.val (.bool (eqJ x y.2)))) : PCall Try.prog 130 [dvA, dvV (.map m), dvV (.map q)] (.val (.bool (eqJ (.map m) (.map q)))) := by
  have hC := mapEq_p m q hE
  rw [show eqJ (.map m) (.map q) = (Nat.beq m.length q.length && eqJm m q) by unfold eqJ; rfl]
  refine pcall_of_run Try.func130 rfl Try.ntmps130 rfl (fun X => ?_)
  repeat' (first
    | refine run_seq ?_
    | (refine k_pick rfl ?_; first | refine k_assignD rfl rfl ?_ | refine k_moveD rfl rfl ?_ | refine k_pickF rfl rfl (by first | rfl | assumption) rfl ?_ | refine k_invD rfl rfl rfl (by kernel_rfl) rfl (by first | exact IsFloat_p _ | exact IsInt_p _ | exact IsString_p _ | exact IsBool_p _ | exact IsList_p _ | exact IsMap_p _ | exact asMap_p _ | exact hC) ?_ | refine k_invS rfl rfl (by kernel_rfl) rfl (by first | exact IsFloat_p _ | exact IsInt_p _ | exact IsString_p _ | exact IsBool_p _ | exact IsList_p _ | exact IsMap_p _ | exact asMap_p _ | exact hC) ?_ | refine k_nilI rfl rfl ?_ | refine k_deferA rfl free_idle ?_)
    | refine run_opsEnd ?_
    | refine run_region ?_
    | refine run_condT rfl (by first | rfl | assumption) ?_
    | refine run_condF rfl (by first | rfl | assumption) ?_
    | (refine k_guardY rfl rfl (by first | rfl | assumption) ?_; first | refine k_moveD rfl rfl ?_ | refine k_invD rfl rfl rfl (by kernel_rfl) rfl (by first | exact IsFloat_p _ | exact IsInt_p _ | exact IsString_p _ | exact IsBool_p _ | exact IsList_p _ | exact IsMap_p _ | exact asMap_p _ | exact hC) ?_)
    | refine run_skip ?_
    | refine run_retOk (resOk_tmp rfl rfl ?_)
    | fail)
  all_goals exact PLe.refl _
theorem eqv_p : ∀ (k j : JV), PCall Try.prog 130 [dvA, dvV j, dvV k] (.val (.bool (eqJ j k)))
  | .list q, .list l => eqList_p l q (fun x _ y hy => eqv_p y x)
  | .map q, .map m => eqMap_p m q (fun y hy x _ => eqv_p y.2 x)
  | .list q, .null => eqOth_p _ _ rfl rfl
  | .list q, .bool _ => eqOth_p _ _ rfl rfl
  | .list q, .int _ => eqOth_p _ _ rfl rfl
  | .list q, .flt _ => eqOth_p _ _ rfl rfl
  | .list q, .str _ => eqOth_p _ _ rfl rfl
  | .list q, .map _ => eqOth_p _ _ rfl rfl
  | .map q, .null => eqOth_p _ _ rfl rfl
  | .map q, .bool _ => eqOth_p _ _ rfl rfl
  | .map q, .int _ => eqOth_p _ _ rfl rfl
  | .map q, .flt _ => eqOth_p _ _ rfl rfl
  | .map q, .str _ => eqOth_p _ _ rfl rfl
  | .map q, .list _ => eqOth_p _ _ rfl rfl
  | .null, j => eqOth_p _ _ (by cases j <;> rfl) (by cases j <;> rfl)
  | .bool _, j => eqOth_p _ _ (by cases j <;> rfl) (by cases j <;> rfl)
  | .int _, j => eqOth_p _ _ (by cases j <;> rfl) (by cases j <;> rfl)
  | .flt _, j => eqOth_p _ _ (by cases j <;> rfl) (by cases j <;> rfl)
  | .str _, j => eqOth_p _ _ (by cases j <;> rfl) (by cases j <;> rfl)
termination_by k => SizeOf.sizeOf k
decreasing_by
  all_goals simp_wf
  · have := List.sizeOf_lt_of_mem hy; omega
  · have := List.sizeOf_lt_of_mem hy
    obtain ⟨y1, y2⟩ := y
    simp at this ⊢
    omega
theorem equals_p (j k : JV) : PCall Try.prog 96 [dvV j, dvV k] (.val (.bool (eqJ j k))) := by
  have hC := eqv_p k j
  refine pcall_of_run Try.func96 rfl Try.ntmps96 rfl (fun X => ?_)
  repeat' (first
    | refine run_seq ?_
    | (refine k_pick rfl ?_; first | refine k_assignD rfl rfl ?_ | refine k_moveD rfl rfl ?_ | refine k_boxW rfl rfl rfl (by first | rfl | (simp only [cellsD]; rfl)) ?_ | refine k_build rfl rfl rfl ?_ | refine k_ifaceP rfl rfl (by kernel_rfl) ?_ | refine k_callZ gV rfl (by kernel_rfl) rfl (by first | exact hC) Flat.val ?_)
    | refine run_opsEnd ?_
    | refine run_region ?_
    | refine run_retOk (resOk_tmp rfl rfl ?_)
    | fail)
  all_goals exact PLe.refl _
end Go.Proofs.Ytlghpcokbppkfaa
