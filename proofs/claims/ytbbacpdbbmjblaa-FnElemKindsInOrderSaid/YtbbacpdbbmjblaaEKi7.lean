/- Part 7 of what the proof rests on. -/
import Derived.Test.YtbbacpdbbmjblaaEKi4
import Derived.Test.YtbbacpdbbmjblaaEKi5
import Derived.Test.YtbbacpdbbmjblaaEKi6
section
set_option linter.unusedVariables false
namespace Go.Proofs.Ytbbacpdbbmjblaa
open Go.RowKit
set_option linter.unusedSimpArgs false
set_option maxHeartbeats 4000000 in
theorem cmpList_p (l q : List JV) (hE : ∀ x ∈ l, ∀ y ∈ q, PCall Try.prog 90 [dvA, dvV x, dvV y] (.val (.int .i64 (cmpJ x y)))) : PCall Try.prog 90 [dvA, dvV (.list l), dvV (.list q)] (.val (.int .i64 (cmpJ (.list l) (.list q)))) := by
  have hC := lstCmp_p cmpJ l q hE
  rw [cmpJ_list]
  refine pcall_of_run Try.func90 rfl Try.ntmps90 rfl (fun X => ?_)
  repeat' (first
    | refine run_seq ?_
    | (refine k_pick rfl ?_; first | refine k_assignD rfl rfl ?_ | refine k_moveD rfl rfl ?_ | refine k_call rfl (by kernel_rfl) rfl (by first | exact IsFloat_p _ | exact IsInt_p _ | exact IsString_p _ | exact IsBool_p _ | exact IsList_p _ | exact asList_p _ | exact hC) ?_ | refine k_not rfl rfl ?_ | refine k_invD rfl rfl rfl (by kernel_rfl) rfl (by first | exact IsFloat_p _ | exact IsInt_p _ | exact IsString_p _ | exact IsBool_p _ | exact IsList_p _ | exact asList_p _ | exact hC) ?_ | refine k_nilI rfl rfl ?_ | refine k_deferA rfl free_idle ?_)
    | refine run_opsEnd ?_
    | refine run_region ?_
    | refine run_condT rfl (by first | rfl | assumption) ?_
    | refine run_condF rfl (by first | rfl | assumption) ?_
    | refine run_skip ?_
    | refine run_retOk (resOk_tmp rfl rfl ?_)
    | fail)
  all_goals exact PLe.refl _
set_option maxHeartbeats 4000000 in
theorem cmpMap_p (m q : List (ByteArray × JV)) (hE : ∀ k x y, lkJ m k = some x → lkJ q k = some y → PCall Try.prog 90 [dvA, dvV x, dvV y] (.val (.int .i64 (cmpJ x y)))) : PCall Try.prog 90 [dvA, dvV (.map m), dvV (.map q)] (.val (.int .i64 (cmpJ (.map m) (.map q)))) := by
  refine PCall.ex fun w F vs hvs => ?_
  have hj : JOk (.map m) ∧ JOk (.map q) := by
    unfold Reps at hvs; obtain ⟨_, _, _, _, hvs⟩ := hvs
    unfold Reps at hvs; obtain ⟨_, _, _, hv1, hvs⟩ := hvs
    unfold Reps at hvs; obtain ⟨_, _, _, hv2, _⟩ := hvs
    have key : ∀ {j : JV} {v : Value}, Rep w F (dvV j) v → JOk j := by
      intro j v h
      unfold dvV Rep at h
      obtain ⟨_, _, h⟩ := h
      unfold Rep at h
      obtain ⟨_, _, _, _, _, h, _⟩ := h
      unfold Rep at h
      obtain ⟨_, _, h, _⟩ := h
      unfold Reps at h
      obtain ⟨_, _, _, h, _⟩ := h
      unfold pdJ Rep at h
      exact h.2
    exact ⟨key hv1, key hv2⟩
  clear hvs vs F w
  unfold JOk at hj
  have hC := mapCmp_p cmpJ m q hj.1.1 hj.2.1 (by omega) hE
  rw [cmpJ_map]
  clear hj
  refine pcall_of_run Try.func90 rfl Try.ntmps90 rfl (fun X => ?_)
  repeat' (first
    | refine run_seq ?_
    | (refine k_pick rfl ?_; first | refine k_assignD rfl rfl ?_ | refine k_moveD rfl rfl ?_ | refine k_call rfl (by kernel_rfl) rfl (by first | exact IsFloat_p _ | exact IsInt_p _ | exact IsString_p _ | exact IsBool_p _ | exact IsList_p _ | exact IsMap_p _ | exact asMap_p _ | exact hC) ?_ | refine k_not rfl rfl ?_ | refine k_invD rfl rfl rfl (by kernel_rfl) rfl (by first | exact IsFloat_p _ | exact IsInt_p _ | exact IsString_p _ | exact IsBool_p _ | exact IsList_p _ | exact IsMap_p _ | exact asMap_p _ | exact hC) ?_ | refine k_nilI rfl rfl ?_ | refine k_deferA rfl free_idle ?_)
    | refine run_opsEnd ?_
    | refine run_region ?_
    | refine run_condT rfl (by first | rfl | assumption) ?_
    | refine run_condF rfl (by first | rfl | assumption) ?_
    | refine run_skip ?_
    | refine run_retOk (resOk_tmp rfl rfl ?_)
    | fail)
  all_goals exact PLe.refl _
theorem lkJ_mem' : ∀ {m : List (ByteArray × JV)} {k : ByteArray} {j : JV}, lkJ m k = some j → ∃ y ∈ m, y.2 = j := fun {m k j} h => by
  rw [lkJ_getA] at h
  exact ⟨(k, j), getA_mem h, rfl⟩
theorem cmpOth_p (j k : JV) (hl : (j.IsList && k.IsList) = false) (hm : (j.IsMap && k.IsMap) = false) : PCall Try.prog 90 [dvA, dvV j, dvV k] (.val (.int .i64 (cmpJ j k))) := by
  cases j
  · exact cmpO_null k hl hm
  · exact cmpO_bool _ k hl hm
  · exact cmpO_int _ k hl hm
  · exact cmpO_flt _ k hl hm
  · exact cmpO_str _ k hl hm
  · exact cmpO_list _ k hl hm
  · exact cmpO_map _ k hl hm
theorem cmp_p : ∀ (k j : JV), PCall Try.prog 90 [dvA, dvV j, dvV k] (.val (.int .i64 (cmpJ j k)))
  | .list q, .list l => cmpList_p l q (fun x _ y hy => cmp_p y x)
  | .map q, .map m => cmpMap_p m q (fun k x y _ hy => by
      obtain ⟨z, hz, e⟩ := lkJ_mem' hy
      rw [← e]
      exact cmp_p z.2 x)
  | .list q, .null => cmpOth_p _ _ rfl rfl
  | .list q, .bool _ => cmpOth_p _ _ rfl rfl
  | .list q, .int _ => cmpOth_p _ _ rfl rfl
  | .list q, .flt _ => cmpOth_p _ _ rfl rfl
  | .list q, .str _ => cmpOth_p _ _ rfl rfl
  | .list q, .map _ => cmpOth_p _ _ rfl rfl
  | .map q, .null => cmpOth_p _ _ rfl rfl
  | .map q, .bool _ => cmpOth_p _ _ rfl rfl
  | .map q, .int _ => cmpOth_p _ _ rfl rfl
  | .map q, .flt _ => cmpOth_p _ _ rfl rfl
  | .map q, .str _ => cmpOth_p _ _ rfl rfl
  | .map q, .list _ => cmpOth_p _ _ rfl rfl
  | .null, j => cmpOth_p _ _ (by cases j <;> rfl) (by cases j <;> rfl)
  | .bool _, j => cmpOth_p _ _ (by cases j <;> rfl) (by cases j <;> rfl)
  | .int _, j => cmpOth_p _ _ (by cases j <;> rfl) (by cases j <;> rfl)
  | .flt _, j => cmpOth_p _ _ (by cases j <;> rfl) (by cases j <;> rfl)
  | .str _, j => cmpOth_p _ _ (by cases j <;> rfl) (by cases j <;> rfl)
termination_by k => SizeOf.sizeOf k
decreasing_by
  all_goals simp_wf
  · have := List.sizeOf_lt_of_mem hy; omega
  · have := List.sizeOf_lt_of_mem hz
    obtain ⟨y1, y2⟩ := z
    simp at this ⊢
    omega
theorem compare_p (j k : JV) : PCall Try.prog 65 [dvV j, dvV k] (.val (.int .i64 (cmpJ j k))) := by
  have hC := cmp_p k j
  refine pcall_of_run Try.func65 rfl Try.ntmps65 rfl (fun X => ?_)
  repeat' (first
    | refine run_seq ?_
    | (refine k_pick rfl ?_; first | refine k_assignD rfl rfl ?_ | refine k_moveD rfl rfl ?_ | refine k_boxW rfl rfl rfl (by first | rfl | (simp only [cellsD]; rfl)) ?_ | refine k_build rfl rfl rfl ?_ | refine k_ifaceP rfl rfl (by kernel_rfl) ?_ | refine k_callZ gV rfl (by kernel_rfl) rfl (by first | exact hC) Flat.val ?_)
    | refine run_opsEnd ?_
    | refine run_region ?_
    | refine run_retOk (resOk_tmp rfl rfl ?_)
    | fail)
  all_goals exact PLe.refl _
end Go.Proofs.Ytbbacpdbbmjblaa
end
section
set_option linter.unusedVariables false
namespace Go.Proofs.Ytbbacpdbbmjblaa
open Go.RowKit
set_option linter.unusedSimpArgs false
set_option maxHeartbeats 8000000 in
theorem listEq_dvLp (l1 l2 : List JV) (hE : ∀ x ∈ l1, ∀ y ∈ l2, PCall Try.prog 79 [dvA, dvV x, dvV y] (.val (.bool (eqJ x y)))) : PCall Try.prog 94 [dvA, dvLp l1, dvL l2] (.val (.bool (eqJs l1 l2))) := by
  refine PCall.ex fun w F vs hvs => ?_
  have hlen : l2.length * 16 ≤ 140737488351232 := by
    unfold Reps at hvs; obtain ⟨_, _, _, _, hvs⟩ := hvs
    unfold Reps at hvs; obtain ⟨_, _, _, _, hvs⟩ := hvs
    unfold Reps at hvs; obtain ⟨_, _, _, hv, _⟩ := hvs
    unfold dvL Rep at hv; obtain ⟨_, _, hv⟩ := hv
    exact dvLs_len hv
  clear hvs vs F w
  refine pcall_of_run Try.func94 rfl Try.ntmps94 rfl (fun X => ?_)
  by_cases hl : l1.length = l2.length
  · have hq0 : decide (((l1.length : Nat) : Int) ≠ ((l2.length : Nat) : Int)) = false := by simp; omega
    by_cases hn : l1 = []
    · subst hn
      have hn2 : l2 = [] := List.eq_nil_of_length_eq_zero hl.symm
      subst hn2
      repeat' (first
    | refine run_seq ?_
    | (refine k_pick rfl ?_; first | refine k_assignD rfl rfl ?_ | refine k_moveD rfl rfl ?_ | refine k_bin2B rfl rfl rfl rfl ?_ | refine k_invD rfl rfl rfl (by kernel_rfl) rfl (by first | exact lenL_p _ | exact rangeNil_p | exact emptyNext_p) ?_ | refine k_invS rfl rfl (by kernel_rfl) rfl (by first | exact lenL_p _ | exact rangeNil_p | exact emptyNext_p) ?_ | refine k_nilI rfl rfl ?_ | refine k_deferA rfl free_idle ?_)
    | refine run_opsEnd ?_
    | refine run_region ?_
    | refine run_condF rfl (by first | rfl | assumption) ?_
    | refine run_block ?_
    | refine run_skip ?_
    | fail)
      refine run_loopS (ι := Unit) (fun _ => [(7, .dat dvE), (8, .dat dvE)]) (fun _ => []) (fun _ => 0) () id ?_ (fun _ => ?_)
      · (refine ⟨?_, ?_, by rfl⟩ <;> repeat' (first | exact trivial | exact ALe.ptr rfl | exact ALe.own rfl | exact ALe.elt rfl | exact BLe.boxD _ _ | exact BLe.row rfl | exact BLe.res | exact BLe.dead rfl | exact ALe.dat (PLe.refl _) | exact CLe.nil | refine And.intro ?_ ?_ | refine ALe.iface ?_ | refine ALe.clo ?_ | refine CLe.cons ?_ ?_ | refine BLe.box ?_ | refine BLe.row ?_ | exact ALe.any _ | refine ALe.dat (PLe.of_eq ?_)))
      repeat' (first
    | refine run_seq ?_
    | (refine k_pick rfl ?_; first | refine k_assignD rfl rfl ?_ | refine k_moveD rfl rfl ?_ | refine k_pickF rfl rfl (by first | rfl | assumption) rfl ?_ | refine k_invS rfl rfl (by kernel_rfl) rfl (by first | exact emptyNext_p) ?_)
    | refine run_opsEnd ?_
    | refine run_region ?_
    | refine run_condF rfl (by first | rfl | assumption) ?_
    | refine k_guardNT rfl rfl (by first | rfl | assumption) rfl ?_
    | refine run_exit rfl ?_
    | refine run_retOk (resOk_tmp rfl rfl ?_)
    | fail)
      all_goals exact PLe.of_eq (by unfold eqJs; rfl)
    · have hn2 : l2 ≠ [] := fun e => hn (List.eq_nil_of_length_eq_zero (by rw [hl, e]; rfl))
      repeat' (first
    | refine run_seq ?_
    | (refine k_pick rfl ?_; first | refine k_assignD rfl rfl ?_ | refine k_moveD rfl rfl ?_ | refine k_bin2B rfl rfl rfl rfl ?_ | refine k_invAD1 (thk [] 200) rfl rfl rfl (by kernel_rfl) (rangeCons_c _ hn) rfl trivial rfl (freshB_ok rfl) rfl ?_ | refine k_invAS1 (thk [] 350) rfl rfl (by kernel_rfl) (rangeCons_c _ hn2) rfl trivial rfl (freshB_ok rfl) rfl ?_ | refine k_invD rfl rfl rfl (by kernel_rfl) rfl (by first | exact lenL_p _) ?_ | refine k_invS rfl rfl (by kernel_rfl) rfl (by first | exact lenL_p _) ?_ | refine k_nilI rfl rfl ?_ | refine k_assignI rfl rfl ?_ | refine k_moveI rfl rfl ?_ | refine k_deferA rfl free_idle ?_)
    | refine run_opsEnd ?_
    | refine run_region ?_
    | refine run_condF rfl (by first | rfl | assumption) ?_
    | refine run_block ?_
    | refine run_skip ?_
    | fail)
      refine run_loopS (ι := { k : Nat // k ≤ l1.length ∧ ∀ i x y, i < k → l1[i]? = some x → l2[i]? = some y → eqJ x y = true })
        (fun k => [(0, .dat dvA), (7, .iface 253 (.ptr 200 0)), (8, .iface 253 (.ptr 350 0))])
        (fun k => [(200, .box 255 [.dat (dvLs l1), .ptr 201 0, .dat (.val (.int .i64 ((k.1 : Nat) - 1 : Int)))]), (201, .box 173 [.any]),
          (350, .box 255 [.dat (dvLs l2), .ptr 351 0, .dat (.val (.int .i64 ((k.1 : Nat) - 1 : Int)))]), (351, .box 173 [.any])])
        (fun k => l1.length - k.1) ⟨0, Nat.zero_le _, fun i _ _ h => absurd h (Nat.not_lt_zero i)⟩ id ?_ ?_
      · (refine ⟨?_, ?_, by rfl⟩ <;> repeat' (first | exact trivial | exact ALe.ptr rfl | exact ALe.own rfl | exact ALe.elt rfl | exact BLe.boxD _ _ | exact BLe.row rfl | exact BLe.res | exact BLe.dead rfl | exact ALe.dat (PLe.refl _) | exact CLe.nil | refine And.intro ?_ ?_ | refine ALe.iface ?_ | refine ALe.clo ?_ | refine CLe.cons ?_ ?_ | refine BLe.box ?_ | refine BLe.row ?_ | exact ALe.any _ | refine ALe.dat (PLe.of_eq ?_)))
      rintro ⟨k, hk, hall⟩
      by_cases hlt : k < l1.length
      · have hq1 : decide ((k : Int) < (l1.length : Int)) = true := by simpa using hlt
        have hq2 : decide ((k : Int) < (l2.length : Int)) = true := by rw [hl] at hlt; simpa using hlt
        obtain ⟨x, hx⟩ : ∃ x, l1[k]? = some x := ⟨_, List.getElem?_eq_getElem hlt⟩
        obtain ⟨y, hy⟩ : ∃ y, l2[k]? = some y := ⟨_, List.getElem?_eq_getElem (hl ▸ hlt)⟩
        have hC := hE x (List.mem_of_getElem? hx) y (List.mem_of_getElem? hy)
        cases hr : eqJ x y with
        | true =>
          rw [hr] at hC
          repeat' (first
    | refine run_seq ?_
    | (refine k_pick rfl ?_; first | refine k_assignD rfl rfl ?_ | refine k_moveD rfl rfl ?_ | refine k_pickT rfl rfl (by first | rfl | assumption) rfl ?_ | refine k_not rfl rfl ?_ | refine k_invAS1 (thk [(1000, _), (1001, _)] 200) rfl rfl (by kernel_rfl) (next_c l1 k (by omega)) rfl ⟨rfl, ⟨rfl, trivial⟩⟩ rfl (freshB_ok rfl) rfl ?_ | refine k_invAS1 (thk [(1000, _), (1001, _)] 200) rfl rfl (by kernel_rfl) (item_c l1 k x hx) rfl ⟨rfl, ⟨rfl, trivial⟩⟩ rfl (freshB_ok rfl) rfl ?_ | refine k_invAS1 (thk [(1000, _), (1001, _)] 200) rfl rfl (by kernel_rfl) (item_c l2 k y hy) rfl ⟨rfl, ⟨rfl, trivial⟩⟩ rfl (freshB_ok rfl) rfl ?_ | refine k_assignI rfl rfl ?_ | refine k_moveI rfl rfl ?_ | refine k_moveT rfl rfl ?_ | refine k_extractI rfl rfl rfl ?_ | refine k_extractD rfl rfl rfl ?_ | refine k_callZ gV rfl (by kernel_rfl) rfl (by first | exact hC) Flat.val ?_)
    | refine run_opsEnd ?_
    | refine run_region ?_
    | refine run_condT rfl (by first | rfl | assumption) ?_
    | refine run_condF rfl (by first | rfl | assumption) ?_
    | (refine k_guardY rfl rfl (by first | rfl | assumption) ?_; first | refine k_invAS1 (thk [(1000, _), (1001, _)] 200) rfl rfl (by kernel_rfl) (next_c l2 k (by omega)) rfl ⟨rfl, ⟨rfl, trivial⟩⟩ rfl (freshB_ok rfl) rfl ?_ | refine k_moveI rfl rfl ?_)
    | refine run_block ?_
    | refine run_blkEnd ?_
    | refine run_skip ?_
    | fail)
          refine run_again ?_
          refine ⟨⟨k + 1, by omega, ?_⟩, id, by simp only; omega, ?_⟩
          · intro i x' y' hi hx' hy'
            by_cases e : i = k
            · subst e
              rw [hx] at hx'; rw [hy] at hy'
              cases hx'; cases hy'
              exact hr
            · exact hall i x' y' (by omega) hx' hy'
          (refine ⟨?_, ?_, by rfl⟩ <;> repeat' (first | exact trivial | exact ALe.ptr rfl | exact ALe.own rfl | exact ALe.elt rfl | exact BLe.boxD _ _ | exact BLe.row rfl | exact BLe.res | exact BLe.dead rfl | exact ALe.dat (PLe.refl _) | exact CLe.nil | refine And.intro ?_ ?_ | refine ALe.iface ?_ | refine ALe.clo ?_ | refine CLe.cons ?_ ?_ | refine BLe.box ?_ | refine BLe.row ?_ | exact ALe.any _ | refine ALe.dat (PLe.of_eq ?_)))
          all_goals (rw [show (((k + 1 : Nat) : Int) - 1) = k by omega])
        | false =>
          rw [hr] at hC
          rw [eqJs_false hx hy hr]
          repeat' (first
    | refine run_seq ?_
    | (refine k_pick rfl ?_; first | refine k_assignD rfl rfl ?_ | refine k_moveD rfl rfl ?_ | refine k_pickT rfl rfl (by first | rfl | assumption) rfl ?_ | refine k_not rfl rfl ?_ | refine k_invAS1 (thk [(1000, _), (1001, _)] 200) rfl rfl (by kernel_rfl) (next_c l1 k (by omega)) rfl ⟨rfl, ⟨rfl, trivial⟩⟩ rfl (freshB_ok rfl) rfl ?_ | refine k_invAS1 (thk [(1000, _), (1001, _)] 200) rfl rfl (by kernel_rfl) (item_c l1 k x hx) rfl ⟨rfl, ⟨rfl, trivial⟩⟩ rfl (freshB_ok rfl) rfl ?_ | refine k_invAS1 (thk [(1000, _), (1001, _)] 200) rfl rfl (by kernel_rfl) (item_c l2 k y hy) rfl ⟨rfl, ⟨rfl, trivial⟩⟩ rfl (freshB_ok rfl) rfl ?_ | refine k_assignI rfl rfl ?_ | refine k_moveI rfl rfl ?_ | refine k_moveT rfl rfl ?_ | refine k_extractI rfl rfl rfl ?_ | refine k_extractD rfl rfl rfl ?_ | refine k_callZ gV rfl (by kernel_rfl) rfl (by first | exact hC) Flat.val ?_)
    | refine run_opsEnd ?_
    | refine run_region ?_
    | refine run_condT rfl (by first | rfl | assumption) ?_
    | (refine k_guardY rfl rfl (by first | rfl | assumption) ?_; first | refine k_invAS1 (thk [(1000, _), (1001, _)] 200) rfl rfl (by kernel_rfl) (next_c l2 k (by omega)) rfl ⟨rfl, ⟨rfl, trivial⟩⟩ rfl (freshB_ok rfl) rfl ?_ | refine k_moveI rfl rfl ?_)
    | refine run_block ?_
    | refine run_skip ?_
    | refine run_retOk (resOk_tmp rfl rfl ?_)
    | fail)
          all_goals exact PLe.refl _
      · have hq1 : decide ((k : Int) < (l1.length : Int)) = false := by simpa using hlt
        rw [eqJs_true hl (fun i x y hx hy => hall i x y (by have := (List.getElem?_eq_some_iff.1 hx).1; omega) hx hy)]
        repeat' (first
    | refine run_seq ?_
    | (refine k_pick rfl ?_; first | refine k_assignD rfl rfl ?_ | refine k_moveD rfl rfl ?_ | refine k_pickF rfl rfl (by first | rfl | assumption) rfl ?_ | refine k_invAS1 (thk [(1000, _), (1001, _)] 200) rfl rfl (by kernel_rfl) (next_c l1 k (by omega)) rfl ⟨rfl, ⟨rfl, trivial⟩⟩ rfl (freshB_ok rfl) rfl ?_ | refine k_moveI rfl rfl ?_)
    | refine run_opsEnd ?_
    | refine run_region ?_
    | refine run_condF rfl (by first | rfl | assumption) ?_
    | refine k_guardNT rfl rfl (by first | rfl | assumption) rfl ?_
    | refine run_exit rfl ?_
    | refine run_retOk (resOk_tmp rfl rfl ?_)
    | fail)
        all_goals exact PLe.refl _
  · have hq0 : decide (((l1.length : Nat) : Int) ≠ ((l2.length : Nat) : Int)) = true := by simp; omega
    have e : eqJs l1 l2 = false := by
      cases h : eqJs l1 l2 with
      | false => rfl
      | true => exact absurd (eqJs_len h) hl
    rw [e]
    repeat' (first
    | refine run_seq ?_
    | (refine k_pick rfl ?_; first | refine k_assignD rfl rfl ?_ | refine k_moveD rfl rfl ?_ | refine k_bin2B rfl rfl rfl rfl ?_ | refine k_invD rfl rfl rfl (by kernel_rfl) rfl (by first | exact lenL_p _) ?_ | refine k_invS rfl rfl (by kernel_rfl) rfl (by first | exact lenL_p _) ?_)
    | refine run_opsEnd ?_
    | refine run_region ?_
    | refine run_condT rfl (by first | rfl | assumption) ?_
    | refine run_retOk (resOk_tmp rfl rfl ?_)
    | fail)
    all_goals exact PLe.refl _
/-- (listUnstructured).EqualsUsing. -/
theorem lstEq_p (l1 l2 : List JV) (hE : ∀ x ∈ l1, ∀ y ∈ l2, PCall Try.prog 79 [dvA, dvV x, dvV y] (.val (.bool (eqJ x y)))) : PCall Try.prog 155 [dvLs l1, dvA, dvL l2] (.val (.bool (eqJs l1 l2))) := by
  have hC := listEq_dvLp l1 l2 hE
  refine pcall_of_run Try.func155 rfl Try.ntmps155 rfl (fun X => ?_)
  repeat' (first
    | refine run_seq ?_
    | (refine k_pick rfl ?_; first | refine k_assignD rfl rfl ?_ | refine k_moveD rfl rfl ?_ | refine k_boxW rfl rfl rfl (by first | rfl | (simp only [cellsD]; rfl)) ?_ | refine k_ifaceP rfl rfl (by kernel_rfl) ?_ | refine k_callZ gV rfl (by kernel_rfl) rfl (by first | exact hC) Flat.val ?_)
    | refine run_opsEnd ?_
    | refine run_region ?_
    | refine run_retOk (resOk_tmp rfl rfl ?_)
    | fail)
  all_goals exact PLe.refl _
end Go.Proofs.Ytbbacpdbbmjblaa
end
section
set_option linter.unusedVariables false
namespace Go.Proofs.Ytbbacpdbbmjblaa
open Go.RowKit
set_option linter.unusedSimpArgs false
/-- One field of the other map. -/
def eqG (m : List (ByteArray × JV)) (y : ByteArray × JV) : Bool := match lkJ m y.1 with | some x => eqJ x y.2 | none => false
theorem eqJm_all (m : List (ByteArray × JV)) : ∀ q : List (ByteArray × JV), eqJm m q = q.all (eqG m)
  | [] => by unfold eqJm; rfl
  | y :: q => by unfold eqJm; rw [eqJm_all m q, List.all_cons]; rfl
theorem eqClo_c (m : List (ByteArray × JV)) (y : ByteArray × JV) (hE : ∀ x, lkJ m y.1 = some x → PCall Try.prog 79 [dvA, dvV x, dvV y.2] (.val (.bool (eqJ x y.2)))) :
    ACall1 Try.prog 172 [.dat (.val (.string y.1)), .iface 139 (.ptr 1004 0), .ptr 1000 0, .ptr 1001 0, .ptr 1002 0]
    [(1000, .box 238 [.dat (dvMm m)]), (1001, .box 159 [.dat dvA]), (1002, .box 139 [.ptr 1003 0]), (1003, .box 173 [.any]), (1004, .box 173 [.dat (pdJ y.2)])]
    (.dat (.val (.bool (eqG m y))))
    [(1000, .box 238 [.dat (dvMm m)]), (1001, .box 159 [.dat dvA]), (1002, .box 139 [.ptr 1003 0]), (1003, .box 173 [.any]), (1004, .box 173 [.dat (pdJ y.2)])] := by
  refine acall_of_run Try.func172 rfl Try.ntmps172 rfl (fun X => ?_)
  cases hlk : lkJ m y.1 with
  | none =>
    have e : eqG m y = false := by unfold eqG; rw [hlk]
    rw [e]
    have hq : (!false) = true := rfl
    repeat' (first
    | refine run_seq ?_
    | (refine k_pick rfl ?_; first | refine k_assignD rfl rfl ?_ | refine k_moveD rfl rfl ?_ | refine k_loadBD rfl rfl rfl (by first | rfl | (simp only [cellsD]; rfl)) ?_ | refine k_extract rfl rfl rfl ?_ | refine k_not rfl rfl ?_ | refine k_lookM rfl rfl rfl (by assumption) ?_)
    | refine run_opsEnd ?_
    | refine run_region ?_
    | refine run_condT rfl (by first | rfl | assumption) ?_
    | fail)
    refine run_retA () id (tm := [(7, .dat (.val (.bool false)))]) ?_ (resA_tmp rfl rfl)
    (refine ⟨?_, ?_, by rfl⟩ <;> repeat' (first | exact trivial | exact ALe.ptr rfl | exact ALe.own rfl | exact ALe.elt rfl | exact BLe.boxD _ _ | exact BLe.row rfl | exact BLe.res | exact BLe.dead rfl | exact ALe.dat (PLe.refl _) | exact CLe.nil | refine And.intro ?_ ?_ | refine ALe.iface ?_ | refine ALe.clo ?_ | refine CLe.cons ?_ ?_ | refine BLe.box ?_ | refine BLe.row ?_ | exact ALe.any _ | refine ALe.dat (PLe.of_eq ?_)))
  | some x =>
    have hC := hE x hlk
    have e : eqG m y = eqJ x y.2 := by unfold eqG; rw [hlk]
    rw [e]
    repeat' (first
    | refine run_seq ?_
    | (refine k_pick rfl ?_; first | refine k_assignD rfl rfl ?_ | refine k_moveD rfl rfl ?_ | refine k_loadBD rfl rfl rfl (by first | rfl | (simp only [cellsD]; rfl)) ?_ | refine k_extract rfl rfl rfl ?_ | refine k_not rfl rfl ?_ | refine k_lookM rfl rfl rfl (by assumption) ?_)
    | refine run_opsEnd ?_
    | refine run_region ?_
    | refine run_condF rfl (by first | rfl | assumption) ?_
    | refine run_skip ?_
    | refine run_drawC (by kernel_rfl) ?_
    | refine c_nil (And.intro (by kernel_rfl) ?_)
    | refine c_pick (d_assignD rfl rfl) ?_
    | refine c_pick (d_moveD rfl rfl) ?_
    | refine c_pick (d_loadBD rfl rfl rfl (by first | rfl | (simp only [cellsD]; rfl))) ?_
    | refine c_pick (d_loadBP rfl rfl rfl rfl) ?_
    | refine c_pick (d_acallB (thk [(1000, _)] 200) rfl (by kernel_rfl) ((reuse_c .any _)) rfl rfl rfl rfl rfl) ?_
    | refine c_pick (d_moveI rfl rfl) ?_
    | refine c_pick (d_callZ gV rfl (by kernel_rfl) rfl (by first | exact hC) Flat.val) ?_
    | fail)
    refine run_retA () id (tm := [(7, .dat (.val (.bool (eqJ x y.2))))]) ?_ (resA_tmp rfl rfl)
    (refine ⟨?_, ?_, by rfl⟩ <;> repeat' (first | exact trivial | exact ALe.ptr rfl | exact ALe.own rfl | exact ALe.elt rfl | exact BLe.boxD _ _ | exact BLe.row rfl | exact BLe.res | exact BLe.dead rfl | exact ALe.dat (PLe.refl _) | exact CLe.nil | refine And.intro ?_ ?_ | refine ALe.iface ?_ | refine ALe.clo ?_ | refine CLe.cons ?_ ?_ | refine BLe.box ?_ | refine BLe.row ?_ | exact ALe.any _ | refine ALe.dat (PLe.of_eq ?_)))
set_option maxHeartbeats 4000000 in
theorem eqIter_c (m q : List (ByteArray × JV)) (hE : ∀ y ∈ q, ∀ x, lkJ m y.1 = some x → PCall Try.prog 79 [dvA, dvV x, dvV y.2] (.val (.bool (eqJ x y.2)))) :
    ACall1 Try.prog 167 [.dat (dvMm q), .dat dvA, .clo 172 [.ptr 1000 0, .ptr 1001 0, .ptr 1002 0]]
    [(1000, .box 238 [.dat (dvMm m)]), (1001, .box 159 [.dat dvA]), (1002, .box 139 [.ptr 1003 0]), (1003, .box 173 [.dat (.val .nilIface)])]
    (.dat (.val (.bool (q.all (eqG m)))))
    [(1000, .box 238 [.dat (dvMm m)]), (1001, .box 159 [.dat dvA]), (1002, .box 139 [.ptr 1003 0]), (1003, .box 173 [.any])] := by
  refine acall_of_run Try.func167 rfl Try.ntmps167 rfl (fun X => ?_)
  by_cases hn : q = []
  · subst hn
    have hq : decide (((([] : List (ByteArray × JV)).length : Nat) : Int) = 0) = true := rfl
    repeat' (first
    | refine run_seq ?_
    | (refine k_pick rfl ?_; first | refine k_assignD rfl rfl ?_ | refine k_moveD rfl rfl ?_ | refine k_bin2B rfl rfl rfl rfl ?_ | refine k_lenM rfl rfl ?_)
    | refine run_opsEnd ?_
    | refine run_region ?_
    | refine run_condT rfl (by first | rfl | assumption) ?_
    | fail)
    refine run_retA () id (tm := [(6, .dat (.val (.bool true)))]) ?_ (resA_tmp rfl rfl)
    (refine ⟨?_, ?_, by rfl⟩ <;> repeat' (first | exact trivial | exact ALe.ptr rfl | exact ALe.own rfl | exact ALe.elt rfl | exact BLe.boxD _ _ | exact BLe.row rfl | exact BLe.res | exact BLe.dead rfl | exact ALe.dat (PLe.refl _) | exact CLe.nil | refine And.intro ?_ ?_ | refine ALe.iface ?_ | refine ALe.clo ?_ | refine CLe.cons ?_ ?_ | refine BLe.box ?_ | refine BLe.row ?_ | exact ALe.any _ | refine ALe.dat (PLe.of_eq ?_)))
  · have hq : decide (((q.length : Nat) : Int) = 0) = false := by
      cases q with
      | nil => exact absurd rfl hn
      | cons x r => simp; omega
    repeat' (first
    | refine run_seq ?_
    | (refine k_pick rfl ?_; first | refine k_rangeM rfl rfl rfl ?_ | refine k_assignD rfl rfl ?_ | refine k_moveD rfl rfl ?_ | refine k_bin2B rfl rfl rfl rfl ?_ | refine k_assignP rfl rfl ?_ | refine k_moveP rfl rfl ?_ | refine k_invAS1 (thk [] 200) rfl rfl (by kernel_rfl) (alloc_c) rfl trivial rfl (freshB_ok rfl) rfl ?_ | refine k_nilI rfl rfl ?_ | refine k_ifaceP rfl rfl (by kernel_rfl) ?_ | refine k_lenM rfl rfl ?_ | refine k_deferA rfl free_idle ?_)
    | refine run_opsEnd ?_
    | refine run_region ?_
    | refine run_condF rfl (by first | rfl | assumption) ?_
    | refine run_block ?_
    | refine run_skip ?_
    | fail)
    refine run_loopS (ι := { done : List (ByteArray × JV) // (done.map (·.1)).Nodup ∧ (∀ y ∈ done, y ∈ q) ∧ ∀ y ∈ done, eqG m y = true })
      (fun k => [(2, .clo 172 [.ptr 1000 0, .ptr 1001 0, .ptr 1002 0]), (7, .ptr 200 0), (20, .own 20)])
      (fun k => [(20, .res (itR q k.1)), (200, .box 173 [.any]), (1000, .box 238 [.dat (dvMm m)]), (1001, .box 159 [.dat dvA]), (1002, .box 139 [.ptr 1003 0]), (1003, .box 173 [.any])])
      (fun k => q.length - k.1.length) ⟨[], by simp, by simp, by simp⟩ id ?_ ?_
    · (refine ⟨?_, ?_, by rfl⟩ <;> repeat' (first | exact trivial | exact ALe.ptr rfl | exact ALe.own rfl | exact ALe.elt rfl | exact BLe.boxD _ _ | exact BLe.row rfl | exact BLe.res | exact BLe.dead rfl | exact ALe.dat (PLe.refl _) | exact CLe.nil | refine And.intro ?_ ?_ | refine ALe.iface ?_ | refine ALe.clo ?_ | refine CLe.cons ?_ ?_ | refine BLe.box ?_ | refine BLe.row ?_ | exact ALe.any _ | refine ALe.dat (PLe.of_eq ?_)))
    rintro ⟨done, hnd, hsub, hall⟩
    repeat' (first
    | refine run_seq ?_
    | refine run_region ?_
    | fail)
    refine k_pick rfl (k_nextM rfl rfl rfl (fun hev => ?_) (fun y hy hny => ?_))
    · have e : q.all (eqG m) = true := List.all_eq_true.2 fun y hy => hall y (hev y hy)
      rw [e]
      repeat' (first
    | refine run_seq ?_
    | (refine k_pick rfl ?_; first | refine k_assignD rfl rfl ?_ | refine k_extract rfl rfl rfl ?_)
    | refine run_opsEnd ?_
    | refine run_region ?_
    | refine run_condF rfl (by first | rfl | assumption) ?_
    | refine run_exit rfl ?_
    | fail)
      refine run_retA () id (tm := [(6, .dat (.val (.bool true)))]) ?_ (resA_tmp rfl rfl)
      (refine ⟨?_, ?_, by rfl⟩ <;> repeat' (first | exact trivial | exact ALe.ptr rfl | exact ALe.own rfl | exact ALe.elt rfl | exact BLe.boxD _ _ | exact BLe.row rfl | exact BLe.res | exact BLe.dead rfl | exact ALe.dat (PLe.refl _) | exact CLe.nil | refine And.intro ?_ ?_ | refine ALe.iface ?_ | refine ALe.clo ?_ | refine CLe.cons ?_ ?_ | refine BLe.box ?_ | refine BLe.row ?_ | exact ALe.any _ | refine ALe.dat (PLe.of_eq ?_)))
    · have hC := eqClo_c m y (hE y hy)
      cases hr : eqG m y with
      | true =>
        rw [hr] at hC
        repeat' (first
    | refine run_seq ?_
    | (refine k_pick rfl ?_; first | refine k_entryM rfl rfl rfl ?_ | refine k_assignD rfl rfl ?_ | refine k_moveD rfl rfl ?_ | refine k_extract rfl rfl rfl ?_ | refine k_not rfl rfl ?_ | refine k_moveP rfl rfl ?_ | refine k_acall1 (thk [(1000, _)] 200) rfl (by kernel_rfl) (reuse_c .any _) rfl ⟨rfl, trivial⟩ rfl (freshB_ok rfl) rfl ?_ | refine k_cloA1 (thk [(1000, _), (1001, _), (1002, _), (1003, _), (1004, _)] 200) rfl rfl (by kernel_rfl) (hC) rfl ⟨rfl, ⟨rfl, ⟨rfl, ⟨rfl, ⟨rfl, trivial⟩⟩⟩⟩⟩ rfl (freshB_ok rfl) rfl ?_ | refine k_moveC rfl rfl ?_)
    | refine run_opsEnd ?_
    | refine run_region ?_
    | refine run_condT rfl (by first | rfl | assumption) ?_
    | refine run_condF rfl (by first | rfl | assumption) ?_
    | refine run_block ?_
    | refine run_blkEnd ?_
    | refine run_skip ?_
    | fail)
        refine run_again ?_
        refine ⟨⟨done ++ [y], ?_, ?_, ?_⟩, id, ?_, ?_⟩
        · rw [List.map_append, List.nodup_append]
          exact ⟨hnd, by simp, fun a ha b hb => by simp at hb; subst hb; exact fun e => hny (e ▸ ha)⟩
        · intro z hz
          rcases List.mem_append.1 hz with hz | hz
          · exact hsub z hz
          · simp at hz; rw [hz]; exact hy
        · intro z hz
          rcases List.mem_append.1 hz with hz | hz
          · exact hall z hz
          · simp at hz; rw [hz]; exact hr
        · have h1 : (done ++ [y]).length ≤ q.length := by
            have := nodup_len (a := (done ++ [y]).map (·.1)) (l := q.map (·.1)) (by
              rw [List.map_append, List.nodup_append]
              exact ⟨hnd, by simp, fun a ha b hb => by simp at hb; subst hb; exact fun e => hny (e ▸ ha)⟩) (fun x hx => by
              obtain ⟨z, hz, rfl⟩ := List.mem_map.1 hx
              rcases List.mem_append.1 hz with hz | hz
              · exact List.mem_map_of_mem (hsub z hz)
              · simp at hz; rw [hz]; exact List.mem_map_of_mem hy)
            simpa using this
          simp only [List.length_append, List.length_cons, List.length_nil] at h1 ⊢
          omega
        (refine ⟨?_, ?_, by rfl⟩ <;> repeat' (first | exact trivial | exact ALe.ptr rfl | exact ALe.own rfl | exact ALe.elt rfl | exact BLe.boxD _ _ | exact BLe.row rfl | exact BLe.res | exact BLe.dead rfl | exact ALe.dat (PLe.refl _) | exact CLe.nil | refine And.intro ?_ ?_ | refine ALe.iface ?_ | refine ALe.clo ?_ | refine CLe.cons ?_ ?_ | refine BLe.box ?_ | refine BLe.row ?_ | exact ALe.any _ | refine ALe.dat (PLe.of_eq ?_)))
      | false =>
        rw [hr] at hC
        have e : q.all (eqG m) = false := by
          cases h : q.all (eqG m) with
          | false => rfl
          | true => rw [List.all_eq_true.1 h y hy] at hr; cases hr
        rw [e]
        repeat' (first
    | refine run_seq ?_
    | (refine k_pick rfl ?_; first | refine k_entryM rfl rfl rfl ?_ | refine k_assignD rfl rfl ?_ | refine k_moveD rfl rfl ?_ | refine k_extract rfl rfl rfl ?_ | refine k_not rfl rfl ?_ | refine k_moveP rfl rfl ?_ | refine k_acall1 (thk [(1000, _)] 200) rfl (by kernel_rfl) (reuse_c .any _) rfl ⟨rfl, trivial⟩ rfl (freshB_ok rfl) rfl ?_ | refine k_cloA1 (thk [(1000, _), (1001, _), (1002, _), (1003, _), (1004, _)] 200) rfl rfl (by kernel_rfl) (hC) rfl ⟨rfl, ⟨rfl, ⟨rfl, ⟨rfl, ⟨rfl, trivial⟩⟩⟩⟩⟩ rfl (freshB_ok rfl) rfl ?_ | refine k_moveC rfl rfl ?_)
    | refine run_opsEnd ?_
    | refine run_region ?_
    | refine run_condT rfl (by first | rfl | assumption) ?_
    | refine run_block ?_
    | refine run_skip ?_
    | fail)
        refine run_retA () id (tm := [(6, .dat (.val (.bool false)))]) ?_ (resA_tmp rfl rfl)
        (refine ⟨?_, ?_, by rfl⟩ <;> repeat' (first | exact trivial | exact ALe.ptr rfl | exact ALe.own rfl | exact ALe.elt rfl | exact BLe.boxD _ _ | exact BLe.row rfl | exact BLe.res | exact BLe.dead rfl | exact ALe.dat (PLe.refl _) | exact CLe.nil | refine And.intro ?_ ?_ | refine ALe.iface ?_ | refine ALe.clo ?_ | refine CLe.cons ?_ ?_ | refine BLe.box ?_ | refine BLe.row ?_ | exact ALe.any _ | refine ALe.dat (PLe.of_eq ?_)))
end Go.Proofs.Ytbbacpdbbmjblaa
end
section
set_option linter.unusedVariables false
namespace Go.Proofs.Ytbbacpdbbmjblaa
open Go.RowKit
set_option linter.unusedSimpArgs false
set_option maxHeartbeats 4000000 in
theorem mapEq_p (m q : List (ByteArray × JV)) (hE : ∀ y ∈ q, ∀ x, lkJ m y.1 = some x → PCall Try.prog 79 [dvA, dvV x, dvV y.2] (.val (.bool (eqJ x y.2)))) :
    PCall Try.prog 162 [dvMm m, dvA, dvM q] (.val (.bool (Nat.beq m.length q.length && eqJm m q))) := by
  have hC := eqIter_c m q hE
  rw [eqJm_all]
  refine pcall_of_run Try.func162 rfl Try.ntmps162 rfl (fun X => ?_)
  by_cases hl : m.length = q.length
  · have hq0 : decide (((m.length : Nat) : Int) ≠ ((q.length : Nat) : Int)) = false := by simp; omega
    have e1 : Nat.beq m.length q.length = true := by rw [hl]; simp
    rw [e1, Bool.true_and]
    by_cases hn : q = []
    · subst hn
      have hn2 : m = [] := List.eq_nil_of_length_eq_zero hl
      subst hn2
      have hq1 : decide (((([] : List (ByteArray × JV)).length : Nat) : Int) = 0) = true := rfl
      repeat' (first
    | refine run_seq ?_
    | (refine k_pick rfl ?_; first | refine k_assignD rfl rfl ?_ | refine k_moveD rfl rfl ?_ | refine k_loadW rfl rfl rfl (by first | rfl | (simp only [cellsD]; rfl)) ?_ | refine k_bin2B rfl rfl rfl rfl ?_ | refine k_boxW rfl rfl rfl (by first | rfl | (simp only [cellsD]; rfl)) ?_ | refine k_call rfl (by kernel_rfl) rfl (by first | exact lenM_p _) ?_ | refine k_invS rfl rfl (by kernel_rfl) rfl (by first | exact lenM_p _) ?_)
    | refine run_opsEnd ?_
    | refine run_region ?_
    | refine run_condT rfl (by first | rfl | assumption) ?_
    | refine run_condF rfl (by first | rfl | assumption) ?_
    | refine run_skip ?_
    | refine run_retOk (resOk_tmp rfl rfl ?_)
    | fail)
      all_goals exact PLe.refl _
    · have hq1 : decide (((m.length : Nat) : Int) = 0) = false := by
        rw [hl]
        cases q with
        | nil => exact absurd rfl hn
        | cons x r => simp; omega
      repeat' (first
    | refine run_seq ?_
    | (refine k_pick rfl ?_; first | refine k_assignD rfl rfl ?_ | refine k_moveD rfl rfl ?_ | refine k_loadW rfl rfl rfl (by first | rfl | (simp only [cellsD]; rfl)) ?_ | refine k_bin2B rfl rfl rfl rfl ?_ | refine k_boxW rfl rfl rfl (by first | rfl | (simp only [cellsD]; rfl)) ?_ | refine k_call rfl (by kernel_rfl) rfl (by first | exact lenM_p _) ?_ | refine k_storeB rfl rfl rfl rfl rfl ?_ | refine k_alloc rfl rfl ?_ | refine k_invAS1 (thk [] 200) rfl rfl (by kernel_rfl) (alloc_c) rfl trivial rfl (freshB_ok rfl) rfl ?_ | refine k_invAS1 (thk [(1000, _), (1001, _), (1002, _), (1003, _)] 200) rfl rfl (by kernel_rfl) (hC) rfl ⟨rfl, ⟨rfl, ⟨rfl, ⟨rfl, trivial⟩⟩⟩⟩ rfl (freshB_ok rfl) rfl ?_ | refine k_invS rfl rfl (by kernel_rfl) rfl (by first | exact lenM_p _) ?_ | refine k_makeFunc rfl ?_)
    | refine run_opsEnd ?_
    | refine run_region ?_
    | refine run_condF rfl (by first | rfl | assumption) ?_
    | refine run_skip ?_
    | refine run_retOk (resOk_tmp rfl rfl ?_)
    | refine run_drawC (by kernel_rfl) ?_
    | refine c_nil (And.intro (by kernel_rfl) ?_)
    | refine c_pick (d_loadW rfl rfl rfl (by first | rfl | (simp only [cellsD]; rfl))) ?_
    | refine c_pick (d_loadBP rfl rfl rfl rfl) ?_
    | refine c_pick (d_nilI rfl rfl) ?_
    | refine c_pick (d_ifaceP rfl rfl (by kernel_rfl)) ?_
    | refine c_pick (d_deferA rfl free_idle) ?_
    | fail)
      all_goals exact PLe.refl _
  · have hq0 : decide (((m.length : Nat) : Int) ≠ ((q.length : Nat) : Int)) = true := by simp; omega
    have e1 : Nat.beq m.length q.length = false := by
      cases h : Nat.beq m.length q.length with
      | false => rfl
      | true => exact absurd (Nat.eq_of_beq_eq_true h) hl
    rw [e1, Bool.false_and]
    repeat' (first
    | refine run_seq ?_
    | (refine k_pick rfl ?_; first | refine k_assignD rfl rfl ?_ | refine k_moveD rfl rfl ?_ | refine k_loadW rfl rfl rfl (by first | rfl | (simp only [cellsD]; rfl)) ?_ | refine k_bin2B rfl rfl rfl rfl ?_ | refine k_boxW rfl rfl rfl (by first | rfl | (simp only [cellsD]; rfl)) ?_ | refine k_call rfl (by kernel_rfl) rfl (by first | exact lenM_p _) ?_ | refine k_invS rfl rfl (by kernel_rfl) rfl (by first | exact lenM_p _) ?_)
    | refine run_opsEnd ?_
    | refine run_region ?_
    | refine run_condT rfl (by first | rfl | assumption) ?_
    | refine run_retOk (resOk_tmp rfl rfl ?_)
    | fail)
    all_goals exact PLe.refl _
set_option maxHeartbeats 4000000 in
theorem eqNum_p : ∀ (j k : JV), (j.IsInt || j.IsFloat) = true → (k.IsInt || k.IsFloat) = true → PCall Try.prog 79 [dvA, dvV j, dvV k] (.val (.bool (eqJ j k))) := by
  intro j k hj hk
  refine pcall_of_run Try.func79 rfl Try.ntmps79 rfl (fun X => ?_)
  cases j <;> simp only [JV.IsInt, JV.IsFloat, Bool.or_self, Bool.false_eq_true, Bool.or_false, Bool.or_true] at hj <;> cases k <;> simp only [JV.IsInt, JV.IsFloat, Bool.or_self, Bool.false_eq_true, Bool.or_false, Bool.or_true] at hk
  all_goals
    repeat' (first
    | refine run_seq ?_
    | (refine k_pick rfl ?_; first | refine k_assignD rfl rfl ?_ | refine k_moveD rfl rfl ?_ | refine k_bin2B rfl rfl rfl rfl ?_ | refine k_pickT rfl rfl (by first | rfl | assumption) rfl ?_ | refine k_pickF rfl rfl (by first | rfl | assumption) rfl ?_ | refine k_invD rfl rfl rfl (by kernel_rfl) rfl (by first | exact IsFloat_p _ | exact IsInt_p _ | exact AsFloat_p _ | exact AsInt_p _) ?_ | refine k_fltC rfl rfl rfl rfl ?_ | refine k_convF (q := .f64) rfl rfl (by kernel_rfl) (by kernel_rfl) ?_)
    | refine run_opsEnd ?_
    | refine run_region ?_
    | refine run_condT rfl (by first | rfl | assumption) ?_
    | refine run_condF rfl (by first | rfl | assumption) ?_
    | (refine k_guardY rfl rfl (by first | rfl | assumption) ?_; first | refine k_moveD rfl rfl ?_ | refine k_invD rfl rfl rfl (by kernel_rfl) rfl (by first | exact IsFloat_p _ | exact IsInt_p _ | exact AsFloat_p _ | exact AsInt_p _) ?_)
    | refine k_guardNF rfl rfl (by first | rfl | assumption) rfl ?_
    | refine run_skip ?_
    | refine run_retOk (resOk_tmp rfl rfl ?_)
    | fail)
  all_goals exact PLe.of_eq (by unfold eqJ; rfl)
end Go.Proofs.Ytbbacpdbbmjblaa
end
section
set_option linter.unusedVariables false
namespace Go.Proofs.Ytbbacpdbbmjblaa
open Go.RowKit
set_option linter.unusedSimpArgs false
set_option maxHeartbeats 40000000 in
theorem eqOth_p (j k : JV) (hl : (j.IsList && k.IsList) = false) (hm : (j.IsMap && k.IsMap) = false) : PCall Try.prog 79 [dvA, dvV j, dvV k] (.val (.bool (eqJ j k))) := by
  by_cases hnum : (j.IsInt || j.IsFloat) = true ∧ (k.IsInt || k.IsFloat) = true
  · exact eqNum_p j k hnum.1 hnum.2
  refine pcall_of_run Try.func79 rfl Try.ntmps79 rfl (fun X => ?_)
  cases j <;> cases k
  all_goals first
    | exact absurd hl (fun h => Bool.noConfusion h)
    | exact absurd hm (fun h => Bool.noConfusion h)
    | exact absurd ⟨rfl, rfl⟩ hnum
    | skip
  all_goals clear hl hm hnum
  all_goals
    repeat' (first
    | refine run_seq ?_
    | (refine k_pick rfl ?_; first | refine k_assignD rfl rfl ?_ | refine k_moveD rfl rfl ?_ | refine k_bin2B rfl rfl rfl rfl ?_ | refine k_pickT rfl rfl (by first | rfl | assumption) rfl ?_ | refine k_pickF rfl rfl (by first | rfl | assumption) rfl ?_ | refine k_cmpBool rfl rfl rfl (by kernel_rfl) rfl ?_ | refine k_invD rfl rfl rfl (by kernel_rfl) rfl (by first | exact IsFloat_p _ | exact IsInt_p _ | exact IsString_p _ | exact IsBool_p _ | exact IsList_p _ | exact IsMap_p _ | exact IsNull_p _ | exact AsString_p _ | exact AsBool_p _ | exact AsFloat_p _ | exact AsInt_p _) ?_)
    | refine run_opsEnd ?_
    | refine run_region ?_
    | refine run_condT rfl (by first | rfl | assumption) ?_
    | refine run_condF rfl (by first | rfl | assumption) ?_
    | (refine k_guardY rfl rfl (by first | rfl | assumption) ?_; first | refine k_moveD rfl rfl ?_ | refine k_invD rfl rfl rfl (by kernel_rfl) rfl (by first | exact IsFloat_p _ | exact IsInt_p _ | exact IsString_p _ | exact IsBool_p _ | exact IsList_p _ | exact IsMap_p _ | exact IsNull_p _ | exact AsString_p _ | exact AsBool_p _ | exact AsFloat_p _ | exact AsInt_p _) ?_)
    | refine k_guardNF rfl rfl (by first | rfl | assumption) rfl ?_
    | refine run_skip ?_
    | refine run_retOk (resOk_tmp rfl rfl ?_)
    | fail)
  all_goals exact PLe.of_eq (by unfold eqJ; rfl)
set_option maxHeartbeats 4000000 in
theorem eqList_p (l q : List JV) (hE : ∀ x ∈ l, ∀ y ∈ q, PCall Try.prog 79 [dvA, dvV x, dvV y] (.val (.bool (eqJ x y)))) : PCall Try.prog 79 [dvA, dvV (.list l), dvV (.list q)] (.val (.bool (eqJ (.list l) (.list q)))) := by
  have hC := lstEq_p l q hE
  rw [show eqJ (.list l) (.list q) = eqJs l q by unfold eqJ; rfl]
  refine pcall_of_run Try.func79 rfl Try.ntmps79 rfl (fun X => ?_)
  repeat' (first
    | refine run_seq ?_
    | (refine k_pick rfl ?_; first | refine k_assignD rfl rfl ?_ | refine k_moveD rfl rfl ?_ | refine k_pickF rfl rfl (by first | rfl | assumption) rfl ?_ | refine k_invD rfl rfl rfl (by kernel_rfl) rfl (by first | exact IsFloat_p _ | exact IsInt_p _ | exact IsString_p _ | exact IsBool_p _ | exact IsList_p _ | exact asList_p _ | exact hC) ?_ | refine k_invS rfl rfl (by kernel_rfl) rfl (by first | exact IsFloat_p _ | exact IsInt_p _ | exact IsString_p _ | exact IsBool_p _ | exact IsList_p _ | exact asList_p _ | exact hC) ?_ | refine k_nilI rfl rfl ?_ | refine k_deferA rfl free_idle ?_)
    | refine run_opsEnd ?_
    | refine run_region ?_
    | refine run_condT rfl (by first | rfl | assumption) ?_
    | refine run_condF rfl (by first | rfl | assumption) ?_
    | (refine k_guardY rfl rfl (by first | rfl | assumption) ?_; first | refine k_moveD rfl rfl ?_ | refine k_invD rfl rfl rfl (by kernel_rfl) rfl (by first | exact IsFloat_p _ | exact IsInt_p _ | exact IsString_p _ | exact IsBool_p _ | exact IsList_p _ | exact asList_p _ | exact hC) ?_)
    | refine run_skip ?_
    | refine run_retOk (resOk_tmp rfl rfl ?_)
    | fail)
  all_goals exact PLe.refl _
set_option maxHeartbeats 4000000 in
theorem eqMap_p (m q : List (ByteArray × JV)) (hE : ∀ y ∈ q, ∀ x, lkJ m y.1 = some x → PCall Try.prog 79 [dvA, dvV x, dvV y.2] (.val (.bool (eqJ x y.2)))) : PCall Try.prog 79 [dvA, dvV (.map m), dvV (.map q)] (.val (.bool (eqJ (.map m) (.map q)))) := by
  have hC := mapEq_p m q hE
  rw [show eqJ (.map m) (.map q) = (Nat.beq m.length q.length && eqJm m q) by unfold eqJ; rfl]
  refine pcall_of_run Try.func79 rfl Try.ntmps79 rfl (fun X => ?_)
  repeat' (first
    | refine run_seq ?_
    | (refine k_pick rfl ?_; first | refine k_assignD rfl rfl ?_ | refine k_moveD rfl rfl ?_ | refine k_pickF rfl rfl (by first | rfl | assumption) rfl ?_ | refine k_invD rfl rfl rfl (by kernel_rfl) rfl (by first | exact IsFloat_p _ | exact IsInt_p _ | exact IsString_p _ | exact IsBool_p _ | exact IsList_p _ | exact IsMap_p _ | exact asMap_p _ | exact hC) ?_ | refine k_invS rfl rfl (by kernel_rfl) rfl (by first | exact IsFloat_p _ | exact IsInt_p _ | exact IsString_p _ | exact IsBool_p _ | exact IsList_p _ | exact IsMap_p _ | exact asMap_p _ | exact hC) ?_ | refine k_nilI rfl rfl ?_ | refine k_deferA rfl free_idle ?_)
    | refine run_opsEnd ?_
    | refine run_region ?_
    | refine run_condT rfl (by first | rfl | assumption) ?_
    | refine run_condF rfl (by first | rfl | assumption) ?_
    | (refine k_guardY rfl rfl (by first | rfl | assumption) ?_; first | refine k_moveD rfl rfl ?_ | refine k_invD rfl rfl rfl (by kernel_rfl) rfl (by first | exact IsFloat_p _ | exact IsInt_p _ | exact IsString_p _ | exact IsBool_p _ | exact IsList_p _ | exact IsMap_p _ | exact asMap_p _ | exact hC) ?_)
    | refine run_skip ?_
    | refine run_retOk (resOk_tmp rfl rfl ?_)
    | fail)
  all_goals exact PLe.refl _
theorem eqv_p : ∀ (k j : JV), PCall Try.prog 79 [dvA, dvV j, dvV k] (.val (.bool (eqJ j k)))
  | .list q, .list l => eqList_p l q (fun x _ y hy => eqv_p y x)
  | .map q, .map m => eqMap_p m q (fun y hy x _ => eqv_p y.2 x)
  | .list q, .null => eqOth_p _ _ rfl rfl
  | .list q, .bool _ => eqOth_p _ _ rfl rfl
  | .list q, .int _ => eqOth_p _ _ rfl rfl
  | .list q, .flt _ => eqOth_p _ _ rfl rfl
  | .list q, .str _ => eqOth_p _ _ rfl rfl
  | .list q, .map _ => eqOth_p _ _ rfl rfl
  | .map q, .null => eqOth_p _ _ rfl rfl
  | .map q, .bool _ => eqOth_p _ _ rfl rfl
  | .map q, .int _ => eqOth_p _ _ rfl rfl
  | .map q, .flt _ => eqOth_p _ _ rfl rfl
  | .map q, .str _ => eqOth_p _ _ rfl rfl
  | .map q, .list _ => eqOth_p _ _ rfl rfl
  | .null, j => eqOth_p _ _ (by cases j <;> rfl) (by cases j <;> rfl)
  | .bool _, j => eqOth_p _ _ (by cases j <;> rfl) (by cases j <;> rfl)
  | .int _, j => eqOth_p _ _ (by cases j <;> rfl) (by cases j <;> rfl)
  | .flt _, j => eqOth_p _ _ (by cases j <;> rfl) (by cases j <;> rfl)
  | .str _, j => eqOth_p _ _ (by cases j <;> rfl) (by cases j <;> rfl)
termination_by k => SizeOf.sizeOf k
decreasing_by
  all_goals simp_wf
  · have := List.sizeOf_lt_of_mem hy; omega
  · have := List.sizeOf_lt_of_mem hy
    obtain ⟨y1, y2⟩ := y
    simp at this ⊢
    omega
theorem equals_p (j k : JV) : PCall Try.prog 49 [dvV j, dvV k] (.val (.bool (eqJ j k))) := by
  have hC := eqv_p k j
  refine pcall_of_run Try.func49 rfl Try.ntmps49 rfl (fun X => ?_)
  repeat' (first
    | refine run_seq ?_
    | (refine k_pick rfl ?_; first | refine k_assignD rfl rfl ?_ | refine k_moveD rfl rfl ?_ | refine k_boxW rfl rfl rfl (by first | rfl | (simp only [cellsD]; rfl)) ?_ | refine k_build rfl rfl rfl ?_ | refine k_ifaceP rfl rfl (by kernel_rfl) ?_ | refine k_callZ gV rfl (by kernel_rfl) rfl (by first | exact hC) Flat.val ?_)
    | refine run_opsEnd ?_
    | refine run_region ?_
    | refine run_retOk (resOk_tmp rfl rfl ?_)
    | fail)
  all_goals exact PLe.refl _
end Go.Proofs.Ytbbacpdbbmjblaa
end
section
set_option linter.unusedVariables false
namespace Go.Proofs.Ytbbacpdbbmjblaa
open Go.RowKit
set_option linter.unusedSimpArgs false
theorem sInts_p (a b : Int) : PCall Try.prog 38 [.val (.int .i64 a), .val (.int .i64 b)] (.val (.int .i64 (cmpI a b))) := by
  refine pcall_of_run Try.func38 rfl Try.ntmps38 rfl (fun X => ?_)
  unfold cmpI
  by_cases h1 : a < b
  · have q1 : decide (a < b) = true := by simpa using h1
    rw [if_pos h1]
    repeat' (first
    | refine run_seq ?_
    | (refine k_pick rfl ?_; first | refine k_assignD rfl rfl ?_ | refine k_moveD rfl rfl ?_ | refine k_bin2B rfl rfl rfl rfl ?_)
    | refine run_opsEnd ?_
    | refine run_region ?_
    | refine run_condT rfl (by first | rfl | assumption) ?_
    | refine run_retOk (resOk_tmp rfl rfl ?_)
    | fail)
    all_goals exact PLe.refl _
  · have q1 : decide (a < b) = false := by simpa using h1
    rw [if_neg h1]
    by_cases h2 : b < a
    · have q2 : decide (b < a) = true := by simpa using h2
      rw [if_pos h2]
      repeat' (first
    | refine run_seq ?_
    | (refine k_pick rfl ?_; first | refine k_assignD rfl rfl ?_ | refine k_moveD rfl rfl ?_ | refine k_bin2B rfl rfl rfl rfl ?_)
    | refine run_opsEnd ?_
    | refine run_region ?_
    | refine run_condT rfl (by first | rfl | assumption) ?_
    | refine run_condF rfl (by first | rfl | assumption) ?_
    | refine run_skip ?_
    | refine run_retOk (resOk_tmp rfl rfl ?_)
    | fail)
      all_goals exact PLe.refl _
    · have q2 : decide (b < a) = false := by simpa using h2
      rw [if_neg h2]
      repeat' (first
    | refine run_seq ?_
    | (refine k_pick rfl ?_; first | refine k_assignD rfl rfl ?_ | refine k_moveD rfl rfl ?_ | refine k_bin2B rfl rfl rfl rfl ?_)
    | refine run_opsEnd ?_
    | refine run_region ?_
    | refine run_condF rfl (by first | rfl | assumption) ?_
    | refine run_skip ?_
    | refine run_retOk (resOk_tmp rfl rfl ?_)
    | fail)
      all_goals exact PLe.refl _
end Go.Proofs.Ytbbacpdbbmjblaa
end
section
set_option linter.unusedVariables false
namespace Go.Proofs.Ytbbacpdbbmjblaa
set_option linter.unusedSimpArgs false
open Ieee
structure Tri (p q r : Int) : Prop where
  rp : p = -1 ∨ p = 0 ∨ p = 1
  rq : q = -1 ∨ q = 0 ∨ q = 1
  rr : r = -1 ∨ r = 0 ∨ r = 1
  zp : p = 0 → r = q
  zq : q = 0 → r = p
  lt : p = -1 → q = -1 → r = -1
  gt : p = 1 → q = 1 → r = 1
def lx (a r : Int) : Int := if a ≠ 0 then a else r
theorem tri_cmpI (a b c : Int) : Tri (cmpI a b) (cmpI b c) (cmpI a c) := by
  have e : ∀ x y : Int, (cmpI x y = -1 ∧ x < y) ∨ (cmpI x y = 0 ∧ x = y) ∨ (cmpI x y = 1 ∧ y < x) := fun x y => by
    unfold cmpI
    by_cases h : x < y
    · rw [if_pos h]; exact .inl ⟨rfl, h⟩
    · rw [if_neg h]
      by_cases h' : y < x
      · rw [if_pos h']; exact .inr (.inr ⟨rfl, h'⟩)
      · rw [if_neg h']; exact .inr (.inl ⟨rfl, by omega⟩)
  have e1 := e a b
  have e2 := e b c
  have e3 := e a c
  constructor <;> omega
theorem cmpI_zero {a b : Int} : cmpI a b = 0 ↔ a = b := by
  unfold cmpI
  by_cases h : a < b
  · rw [if_pos h]; constructor <;> intro h' <;> omega
  · rw [if_neg h]
    by_cases h' : b < a
    · rw [if_pos h']; constructor <;> intro h' <;> omega
    · rw [if_neg h']; constructor <;> intro h' <;> omega
end Go.Proofs.Ytbbacpdbbmjblaa
end
section
set_option linter.unusedVariables false
namespace Go.Proofs.Ytbbacpdbbmjblaa
set_option linter.unusedSimpArgs false
theorem lx_pos {a r : Int} (h : a ≠ 0) : lx a r = a := if_pos h
theorem lx_zero {a r : Int} (h : a = 0) : lx a r = r := if_neg (by simp [h])
theorem lx_is_zero {a r : Int} : lx a r = 0 ↔ a = 0 ∧ r = 0 := by
  unfold lx
  by_cases h : a = 0
  · rw [if_neg (by simp [h])]; simp [h]
  · rw [if_pos h]; simp [h]
theorem cmpI_lt {a b : Int} (h : a < b) : cmpI a b = -1 := if_pos h
theorem cmpI_gt {a b : Int} (h : b < a) : cmpI a b = 1 := by unfold cmpI; rw [if_neg (by omega), if_pos h]
end Go.Proofs.Ytbbacpdbbmjblaa
end
section
set_option linter.unusedVariables false
namespace Go.Proofs.Ytbbacpdbbmjblaa
set_option linter.unusedSimpArgs false
section
variable {α β : Type}
def cmpLx (c : α → α → Int) : List α → List α → Int
  | [], [] => 0
  | [], _ :: _ => -1
  | _ :: _, [] => 1
  | x :: r, y :: q => lx (c x y) (cmpLx c r q)
theorem cmpLx_cons (c : α → α → Int) (x y : α) (r q : List α) : cmpLx c (x :: r) (y :: q) = lx (c x y) (cmpLx c r q) := rfl
theorem cmpLx_zero {c : α → α → Int} : ∀ {a b : List α}, cmpLx c a b = 0 ↔ a.length = b.length ∧ ∀ (i : Nat) (x y : α), a[i]? = some x → b[i]? = some y → c x y = 0
  | [], [] => by simp [cmpLx]
  | [], _ :: _ => by simp [cmpLx]
  | _ :: _, [] => by simp [cmpLx]
  | x :: r, y :: q => by
    rw [cmpLx_cons, lx_is_zero, cmpLx_zero (a := r) (b := q)]
    constructor
    · rintro ⟨h, h2, h3⟩
      refine ⟨by simp [h2], fun i u v hu hv => ?_⟩
      cases i with
      | zero => simp at hu hv; subst hu hv; exact h
      | succ i => exact h3 i u v (by simpa using hu) (by simpa using hv)
    · rintro ⟨h2, h3⟩
      exact ⟨h3 0 x y rfl rfl, by simpa using h2, fun i u v hu hv => h3 (i + 1) u v (by simpa using hu) (by simpa using hv)⟩
/-- Behind k equal pairs. -/
theorem cmpLx_drop {c : α → α → Int} : ∀ (k : Nat) {a b : List α}, k ≤ a.length → k ≤ b.length → (∀ (i : Nat) (x y : α), i < k → a[i]? = some x → b[i]? = some y → c x y = 0) → cmpLx c a b = cmpLx c (a.drop k) (b.drop k)
  | 0, a, b, _, _, _ => by simp
  | k + 1, [], _, h, _, _ => by simp at h
  | k + 1, _ :: _, [], _, h, _ => by simp at h
  | k + 1, x :: r, y :: q, h1, h2, h => by
    rw [cmpLx_cons, lx_zero (h 0 x y (by omega) rfl rfl), cmpLx_drop k (by simpa using h1) (by simpa using h2) (fun i u v hi hu hv => h (i + 1) u v (by omega) (by simpa using hu) (by simpa using hv))]
    rfl
theorem cmpLx_at {c : α → α → Int} {k : Nat} {a b : List α} {x y : α} (h : ∀ (i : Nat) (x y : α), i < k → a[i]? = some x → b[i]? = some y → c x y = 0) (hx : a[k]? = some x) (hy : b[k]? = some y) (hn : c x y ≠ 0) : cmpLx c a b = c x y := by
  have h1 := (List.getElem?_eq_some_iff.1 hx).1
  have h2 := (List.getElem?_eq_some_iff.1 hy).1
  rw [cmpLx_drop k (by omega) (by omega) h, List.drop_eq_getElem_cons h1, List.drop_eq_getElem_cons h2, cmpLx_cons]
  have e1 := (List.getElem?_eq_some_iff.1 hx).2
  have e2 := (List.getElem?_eq_some_iff.1 hy).2
  rw [e1, e2, lx_pos hn]
theorem cmpLx_end {c : α → α → Int} {k : Nat} {a b : List α} (h1 : k ≤ a.length) (h2 : k ≤ b.length) (h : ∀ (i : Nat) (x y : α), i < k → a[i]? = some x → b[i]? = some y → c x y = 0) (hk : k = a.length ∨ k = b.length) : cmpLx c a b = cmpI a.length b.length := by
  rw [cmpLx_drop k h1 h2 h]
  rcases hk with hk | hk
  · rw [hk, List.drop_length]
    cases hb : b.drop a.length with
    | nil =>
      have := congrArg List.length hb
      simp at this
      rw [cmpI_zero.2 (by omega)]; rfl
    | cons y q =>
      have := congrArg List.length hb
      simp at this
      rw [cmpI_lt (by omega)]; rfl
  · rw [hk, List.drop_length]
    cases ha : a.drop b.length with
    | nil =>
      have := congrArg List.length ha
      simp at this
      rw [cmpI_zero.2 (by omega)]; rfl
    | cons y q =>
      have := congrArg List.length ha
      simp at this
      rw [cmpI_gt (by omega)]; rfl
/-- Equal, pair by pair. -/
def eqLx (e : α → α → Bool) : List α → List α → Bool
  | [], [] => true
  | x :: r, y :: q => e x y && eqLx e r q
  | _, _ => false
theorem eqLx_iff {e : α → α → Bool} : ∀ {a b : List α}, eqLx e a b = true ↔ a.length = b.length ∧ ∀ (i : Nat) (x y : α), a[i]? = some x → b[i]? = some y → e x y = true
  | [], [] => by simp [eqLx]
  | [], _ :: _ => by simp [eqLx]
  | _ :: _, [] => by simp [eqLx]
  | x :: r, y :: q => by
    rw [show eqLx e (x :: r) (y :: q) = (e x y && eqLx e r q) from rfl, Bool.and_eq_true, eqLx_iff (a := r) (b := q)]
    constructor
    · rintro ⟨h, h2, h3⟩
      refine ⟨by simp [h2], fun i u v hu hv => ?_⟩
      cases i with
      | zero => simp at hu hv; subst hu hv; exact h
      | succ i => exact h3 i u v (by simpa using hu) (by simpa using hv)
    · rintro ⟨h2, h3⟩
      exact ⟨h3 0 x y rfl rfl, by simpa using h2, fun i u v hu hv => h3 (i + 1) u v (by simpa using hu) (by simpa using hv)⟩
theorem eqLx_len {e : α → α → Bool} {a b : List α} (h : a.length ≠ b.length) : eqLx e a b = false := Bool.eq_false_iff.2 fun h' => h (eqLx_iff.1 h').1
theorem eqLx_no {e : α → α → Bool} {a b : List α} {i : Nat} {x y : α} (hx : a[i]? = some x) (hy : b[i]? = some y) (h : e x y = false) : eqLx e a b = false := Bool.eq_false_iff.2 fun h' => by rw [(eqLx_iff.1 h').2 i x y hx hy] at h; cases h
theorem eqLx_all {e : α → α → Bool} {a b : List α} (hl : a.length = b.length) (h : ∀ (i : Nat) (x y : α), a[i]? = some x → b[i]? = some y → e x y = true) : eqLx e a b = true := eqLx_iff.2 ⟨hl, h⟩
end
def cmpFd (f g : ByteArray × JV) : Int := lx (cmpS f.1 g.1) (cmpJ f.2 g.2)
def eqFd (f g : ByteArray × JV) : Bool := decide (f.1 = g.1) && eqJ f.2 g.2
def rkPE : PEV → Int
  | .name _ => 0
  | .key _ => 1
  | .val _ => 2
  | .idx _ => 3
def bodyPE : PEV → PEV → Int
  | .name a, .name b => cmpS a b
  | .key a, .key b => cmpLx cmpFd a b
  | .val a, .val b => cmpJ a b
  | .idx a, .idx b => cmpI a b
  | _, _ => 0
def cmpPE (p q : PEV) : Int := lx (cmpI (rkPE p) (rkPE q)) (bodyPE p q)
def eqPE : PEV → PEV → Bool
  | .name a, .name b => decide (a = b)
  | .key a, .key b => eqLx eqFd a b
  | .val a, .val b => eqJ a b
  | .idx a, .idx b => decide (a = b)
  | _, _ => false
end Go.Proofs.Ytbbacpdbbmjblaa
end
