/- Part 8 of what the proof rests on. -/
import Derived.ProofKit
import Derived.SizedLaws
import Derived.Test.YtbbacpdbbmjblaaFiE3
import Derived.Test.YtbbacpdbbmjblaaFiE4
import Derived.Test.YtbbacpdbbmjblaaFiE5
import Derived.Test.YtbbacpdbbmjblaaFiE7
section
set_option linter.unusedVariables false
namespace Go.Proofs.Ytbbacpdbbmjblaa
open Go.RowKit
set_option linter.unusedSimpArgs false
set_option maxHeartbeats 8000000 in
theorem listEq_dvLp (l1 l2 : List JV) (hE : ∀ x ∈ l1, ∀ y ∈ l2, PCall Try.prog 79 [dvA, dvV x, dvV y] (.val (.bool (eqJ x y)))) : PCall Try.prog 94 [dvA, dvLp l1, dvL l2] (.val (.bool (eqJs l1 l2))) := by
  refine PCall.ex fun w F vs hvs => ?_
  have hlen : l2.length * 16 ≤ 140737488351232 := by
    unfold Reps at hvs; obtain ⟨_, _, _, _, hvs⟩ := hvs
    unfold Reps at hvs; obtain ⟨_, _, _, _, hvs⟩ := hvs
    unfold Reps at hvs; obtain ⟨_, _, _, hv, _⟩ := hvs
    unfold dvL Rep at hv; obtain ⟨_, _, hv⟩ := hv
    exact dvLs_len hv
  clear hvs vs F w
  refine pcall_of_run Try.func94 rfl Try.ntmps94 rfl (fun X => ?_)
  by_cases hl : l1.length = l2.length
  · have hq0 : decide (((l1.length : Nat) : Int) ≠ ((l2.length : Nat) : Int)) = false := by simp; omega
    by_cases hn : l1 = []
    · subst hn
      have hn2 : l2 = [] := List.eq_nil_of_length_eq_zero hl.symm
      subst hn2
      repeat' (first
    | refine run_seq ?_
    | (refine k_pick rfl ?_; first | refine k_assignD rfl rfl ?_ | refine k_moveD rfl rfl ?_ | refine k_bin2B rfl rfl rfl rfl ?_ | refine k_invD rfl rfl rfl (by kernel_rfl) rfl (by first | exact lenL_p _ | exact rangeNil_p | exact emptyNext_p) ?_ | refine k_invS rfl rfl (by kernel_rfl) rfl (by first | exact lenL_p _ | exact rangeNil_p | exact emptyNext_p) ?_ | refine k_nilI rfl rfl ?_ | refine k_deferA rfl free_idle ?_)
    | refine run_opsEnd ?_
    | refine run_region ?_
    | refine run_condF rfl (by first | rfl | assumption) ?_
    | refine run_block ?_
    | refine run_skip ?_
    | fail)
      refine run_loopS (ι := Unit) (fun _ => [(7, .dat dvE), (8, .dat dvE)]) (fun _ => []) (fun _ => 0) () id ?_ (fun _ => ?_)
      · (refine ⟨?_, ?_, by rfl⟩ <;> repeat' (first | exact trivial | exact ALe.ptr rfl | exact ALe.own rfl | exact ALe.elt rfl | exact BLe.boxD _ _ | exact BLe.row rfl | exact BLe.res | exact BLe.dead rfl | exact ALe.dat (PLe.refl _) | exact CLe.nil | refine And.intro ?_ ?_ | refine ALe.iface ?_ | refine ALe.clo ?_ | refine CLe.cons ?_ ?_ | refine BLe.box ?_ | refine BLe.row ?_ | exact ALe.any _ | refine ALe.dat (PLe.of_eq ?_)))
      repeat' (first
    | refine run_seq ?_
    | (refine k_pick rfl ?_; first | refine k_assignD rfl rfl ?_ | refine k_moveD rfl rfl ?_ | refine k_pickF rfl rfl (by first | rfl | assumption) rfl ?_ | refine k_invS rfl rfl (by kernel_rfl) rfl (by first | exact emptyNext_p) ?_)
    | refine run_opsEnd ?_
    | refine run_region ?_
    | refine run_condF rfl (by first | rfl | assumption) ?_
    | refine k_guardNT rfl rfl (by first | rfl | assumption) rfl ?_
    | refine run_exit rfl ?_
    | refine run_retOk (resOk_tmp rfl rfl ?_)
    | fail)
      all_goals exact PLe.of_eq (by unfold eqJs; rfl)
    · have hn2 : l2 ≠ [] := fun e => hn (List.eq_nil_of_length_eq_zero (by rw [hl, e]; rfl))
      repeat' (first
    | refine run_seq ?_
    | (refine k_pick rfl ?_; first | refine k_assignD rfl rfl ?_ | refine k_moveD rfl rfl ?_ | refine k_bin2B rfl rfl rfl rfl ?_ | refine k_invAD1 (thk [] 200) rfl rfl rfl (by kernel_rfl) (rangeCons_c _ hn) rfl trivial rfl (freshB_ok rfl) rfl ?_ | refine k_invAS1 (thk [] 350) rfl rfl (by kernel_rfl) (rangeCons_c _ hn2) rfl trivial rfl (freshB_ok rfl) rfl ?_ | refine k_invD rfl rfl rfl (by kernel_rfl) rfl (by first | exact lenL_p _) ?_ | refine k_invS rfl rfl (by kernel_rfl) rfl (by first | exact lenL_p _) ?_ | refine k_nilI rfl rfl ?_ | refine k_assignI rfl rfl ?_ | refine k_moveI rfl rfl ?_ | refine k_deferA rfl free_idle ?_)
    | refine run_opsEnd ?_
    | refine run_region ?_
    | refine run_condF rfl (by first | rfl | assumption) ?_
    | refine run_block ?_
    | refine run_skip ?_
    | fail)
      refine run_loopS (ι := { k : Nat // k ≤ l1.length ∧ ∀ i x y, i < k → l1[i]? = some x → l2[i]? = some y → eqJ x y = true })
        (fun k => [(0, .dat dvA), (7, .iface 253 (.ptr 200 0)), (8, .iface 253 (.ptr 350 0))])
        (fun k => [(200, .box 255 [.dat (dvLs l1), .ptr 201 0, .dat (.val (.int .i64 ((k.1 : Nat) - 1 : Int)))]), (201, .box 173 [.any]),
          (350, .box 255 [.dat (dvLs l2), .ptr 351 0, .dat (.val (.int .i64 ((k.1 : Nat) - 1 : Int)))]), (351, .box 173 [.any])])
        (fun k => l1.length - k.1) ⟨0, Nat.zero_le _, fun i _ _ h => absurd h (Nat.not_lt_zero i)⟩ id ?_ ?_
      · (refine ⟨?_, ?_, by rfl⟩ <;> repeat' (first | exact trivial | exact ALe.ptr rfl | exact ALe.own rfl | exact ALe.elt rfl | exact BLe.boxD _ _ | exact BLe.row rfl | exact BLe.res | exact BLe.dead rfl | exact ALe.dat (PLe.refl _) | exact CLe.nil | refine And.intro ?_ ?_ | refine ALe.iface ?_ | refine ALe.clo ?_ | refine CLe.cons ?_ ?_ | refine BLe.box ?_ | refine BLe.row ?_ | exact ALe.any _ | refine ALe.dat (PLe.of_eq ?_)))
      rintro ⟨k, hk, hall⟩
      by_cases hlt : k < l1.length
      · have hq1 : decide ((k : Int) < (l1.length : Int)) = true := by simpa using hlt
        have hq2 : decide ((k : Int) < (l2.length : Int)) = true := by rw [hl] at hlt; simpa using hlt
        obtain ⟨x, hx⟩ : ∃ x, l1[k]? = some x := ⟨_, List.getElem?_eq_getElem hlt⟩
        obtain ⟨y, hy⟩ : ∃ y, l2[k]? = some y := ⟨_, List.getElem?_eq_getElem (hl ▸ hlt)⟩
        have hC := hE x (List.mem_of_getElem? hx) y (List.mem_of_getElem? hy)
        cases hr : eqJ x y with
        | true =>
          rw [hr] at hC
          repeat' (first
    | refine run_seq ?_
    | (refine k_pick rfl ?_; first | refine k_assignD rfl rfl ?_ | refine k_moveD rfl rfl ?_ | refine k_pickT rfl rfl (by first | rfl | assumption) rfl ?_ | refine k_not rfl rfl ?_ | refine k_invAS1 (thk [(1000, _), (1001, _)] 200) rfl rfl (by kernel_rfl) (next_c l1 k (by omega)) rfl ⟨rfl, ⟨rfl, trivial⟩⟩ rfl (freshB_ok rfl) rfl ?_ | refine k_invAS1 (thk [(1000, _), (1001, _)] 200) rfl rfl (by kernel_rfl) (item_c l1 k x hx) rfl ⟨rfl, ⟨rfl, trivial⟩⟩ rfl (freshB_ok rfl) rfl ?_ | refine k_invAS1 (thk [(1000, _), (1001, _)] 200) rfl rfl (by kernel_rfl) (item_c l2 k y hy) rfl ⟨rfl, ⟨rfl, trivial⟩⟩ rfl (freshB_ok rfl) rfl ?_ | refine k_assignI rfl rfl ?_ | refine k_moveI rfl rfl ?_ | refine k_moveT rfl rfl ?_ | refine k_extractI rfl rfl rfl ?_ | refine k_extractD rfl rfl rfl ?_ | refine k_callZ gV rfl (by kernel_rfl) rfl (by first | exact hC) Flat.val ?_)
    | refine run_opsEnd ?_
    | refine run_region ?_
    | refine run_condT rfl (by first | rfl | assumption) ?_
    | refine run_condF rfl (by first | rfl | assumption) ?_
    | (refine k_guardY rfl rfl (by first | rfl | assumption) ?_; first | refine k_invAS1 (thk [(1000, _), (1001, _)] 200) rfl rfl (by kernel_rfl) (next_c l2 k (by omega)) rfl ⟨rfl, ⟨rfl, trivial⟩⟩ rfl (freshB_ok rfl) rfl ?_ | refine k_moveI rfl rfl ?_)
    | refine run_block ?_
    | refine run_blkEnd ?_
    | refine run_skip ?_
    | fail)
          refine run_again ?_
          refine ⟨⟨k + 1, by omega, ?_⟩, id, by simp only; omega, ?_⟩
          · intro i x' y' hi hx' hy'
            by_cases e : i = k
            · subst e
              rw [hx] at hx'; rw [hy] at hy'
              cases hx'; cases hy'
              exact hr
            · exact hall i x' y' (by omega) hx' hy'
          (refine ⟨?_, ?_, by rfl⟩ <;> repeat' (first | exact trivial | exact ALe.ptr rfl | exact ALe.own rfl | exact ALe.elt rfl | exact BLe.boxD _ _ | exact BLe.row rfl | exact BLe.res | exact BLe.dead rfl | exact ALe.dat (PLe.refl _) | exact CLe.nil | refine And.intro ?_ ?_ | refine ALe.iface ?_ | refine ALe.clo ?_ | refine CLe.cons ?_ ?_ | refine BLe.box ?_ | refine BLe.row ?_ | exact ALe.any _ | refine ALe.dat (PLe.of_eq ?_)))
          all_goals (rw [show (((k + 1 : Nat) : Int) - 1) = k by omega])
        | false =>
          rw [hr] at hC
          rw [eqJs_false hx hy hr]
          repeat' (first
    | refine run_seq ?_
    | (refine k_pick rfl ?_; first | refine k_assignD rfl rfl ?_ | refine k_moveD rfl rfl ?_ | refine k_pickT rfl rfl (by first | rfl | assumption) rfl ?_ | refine k_not rfl rfl ?_ | refine k_invAS1 (thk [(1000, _), (1001, _)] 200) rfl rfl (by kernel_rfl) (next_c l1 k (by omega)) rfl ⟨rfl, ⟨rfl, trivial⟩⟩ rfl (freshB_ok rfl) rfl ?_ | refine k_invAS1 (thk [(1000, _), (1001, _)] 200) rfl rfl (by kernel_rfl) (item_c l1 k x hx) rfl ⟨rfl, ⟨rfl, trivial⟩⟩ rfl (freshB_ok rfl) rfl ?_ | refine k_invAS1 (thk [(1000, _), (1001, _)] 200) rfl rfl (by kernel_rfl) (item_c l2 k y hy) rfl ⟨rfl, ⟨rfl, trivial⟩⟩ rfl (freshB_ok rfl) rfl ?_ | refine k_assignI rfl rfl ?_ | refine k_moveI rfl rfl ?_ | refine k_moveT rfl rfl ?_ | refine k_extractI rfl rfl rfl ?_ | refine k_extractD rfl rfl rfl ?_ | refine k_callZ gV rfl (by kernel_rfl) rfl (by first | exact hC) Flat.val ?_)
    | refine run_opsEnd ?_
    | refine run_region ?_
    | refine run_condT rfl (by first | rfl | assumption) ?_
    | (refine k_guardY rfl rfl (by first | rfl | assumption) ?_; first | refine k_invAS1 (thk [(1000, _), (1001, _)] 200) rfl rfl (by kernel_rfl) (next_c l2 k (by omega)) rfl ⟨rfl, ⟨rfl, trivial⟩⟩ rfl (freshB_ok rfl) rfl ?_ | refine k_moveI rfl rfl ?_)
    | refine run_block ?_
    | refine run_skip ?_
    | refine run_retOk (resOk_tmp rfl rfl ?_)
    | fail)
          all_goals exact PLe.refl _
      · have hq1 : decide ((k : Int) < (l1.length : Int)) = false := by simpa using hlt
        rw [eqJs_true hl (fun i x y hx hy => hall i x y (by have := (List.getElem?_eq_some_iff.1 hx).1; omega) hx hy)]
        repeat' (first
    | refine run_seq ?_
    | (refine k_pick rfl ?_; first | refine k_assignD rfl rfl ?_ | refine k_moveD rfl rfl ?_ | refine k_pickF rfl rfl (by first | rfl | assumption) rfl ?_ | refine k_invAS1 (thk [(1000, _), (1001, _)] 200) rfl rfl (by kernel_rfl) (next_c l1 k (by omega)) rfl ⟨rfl, ⟨rfl, trivial⟩⟩ rfl (freshB_ok rfl) rfl ?_ | refine k_moveI rfl rfl ?_)
    | refine run_opsEnd ?_
    | refine run_region ?_
    | refine run_condF rfl (by first | rfl | assumption) ?_
    | refine k_guardNT rfl rfl (by first | rfl | assumption) rfl ?_
    | refine run_exit rfl ?_
    | refine run_retOk (resOk_tmp rfl rfl ?_)
    | fail)
        all_goals exact PLe.refl _
  · have hq0 : decide (((l1.length : Nat) : Int) ≠ ((l2.length : Nat) : Int)) = true := by simp; omega
    have e : eqJs l1 l2 = false := by
      cases h : eqJs l1 l2 with
      | false => rfl
      | true => exact absurd (eqJs_len h) hl
    rw [e]
    repeat' (first
    | refine run_seq ?_
    | (refine k_pick rfl ?_; first | refine k_assignD rfl rfl ?_ | refine k_moveD rfl rfl ?_ | refine k_bin2B rfl rfl rfl rfl ?_ | refine k_invD rfl rfl rfl (by kernel_rfl) rfl (by first | exact lenL_p _) ?_ | refine k_invS rfl rfl (by kernel_rfl) rfl (by first | exact lenL_p _) ?_)
    | refine run_opsEnd ?_
    | refine run_region ?_
    | refine run_condT rfl (by first | rfl | assumption) ?_
    | refine run_retOk (resOk_tmp rfl rfl ?_)
    | fail)
    all_goals exact PLe.refl _
/-- (listUnstructured).EqualsUsing. -/
theorem lstEq_p (l1 l2 : List JV) (hE : ∀ x ∈ l1, ∀ y ∈ l2, PCall Try.prog 79 [dvA, dvV x, dvV y] (.val (.bool (eqJ x y)))) : PCall Try.prog 155 [dvLs l1, dvA, dvL l2] (.val (.bool (eqJs l1 l2))) := by
  have hC := listEq_dvLp l1 l2 hE
  refine pcall_of_run Try.func155 rfl Try.ntmps155 rfl (fun X => ?_)
  repeat' (first
    | refine run_seq ?_
    | (refine k_pick rfl ?_; first | refine k_assignD rfl rfl ?_ | refine k_moveD rfl rfl ?_ | refine k_boxW rfl rfl rfl (by first | rfl | (simp only [cellsD]; rfl)) ?_ | refine k_ifaceP rfl rfl (by kernel_rfl) ?_ | refine k_callZ gV rfl (by kernel_rfl) rfl (by first | exact hC) Flat.val ?_)
    | refine run_opsEnd ?_
    | refine run_region ?_
    | refine run_retOk (resOk_tmp rfl rfl ?_)
    | fail)
  all_goals exact PLe.refl _
end Go.Proofs.Ytbbacpdbbmjblaa
end
section
set_option linter.unusedVariables false
namespace Go.Proofs.Ytbbacpdbbmjblaa
open Go.RowKit
set_option linter.unusedSimpArgs false
/-- One field of the other map. -/
def eqG (m : List (ByteArray × JV)) (y : ByteArray × JV) : Bool := match lkJ m y.1 with | some x => eqJ x y.2 | none => false
theorem eqJm_all (m : List (ByteArray × JV)) : ∀ q : List (ByteArray × JV), eqJm m q = q.all (eqG m)
  | [] => by unfold eqJm; rfl
  | y :: q => by unfold eqJm; rw [eqJm_all m q, List.all_cons]; rfl
theorem eqClo_c (m : List (ByteArray × JV)) (y : ByteArray × JV) (hE : ∀ x, lkJ m y.1 = some x → PCall Try.prog 79 [dvA, dvV x, dvV y.2] (.val (.bool (eqJ x y.2)))) :
    ACall1 Try.prog 172 [.dat (.val (.string y.1)), .iface 139 (.ptr 1004 0), .ptr 1000 0, .ptr 1001 0, .ptr 1002 0]
    [(1000, .box 238 [.dat (dvMm m)]), (1001, .box 159 [.dat dvA]), (1002, .box 139 [.ptr 1003 0]), (1003, .box 173 [.any]), (1004, .box 173 [.dat (pdJ y.2)])]
    (.dat (.val (.bool (eqG m y))))
    [(1000, .box 238 [.dat (dvMm m)]), (1001, .box 159 [.dat dvA]), (1002, .box 139 [.ptr 1003 0]), (1003, .box 173 [.any]), (1004, .box 173 [.dat (pdJ y.2)])] := by
  refine acall_of_run Try.func172 rfl Try.ntmps172 rfl (fun X => ?_)
  cases hlk : lkJ m y.1 with
  | none =>
    have e : eqG m y = false := by unfold eqG; rw [hlk]
    rw [e]
    have hq : (!false) = true := rfl
    repeat' (first
    | refine run_seq ?_
    | (refine k_pick rfl ?_; first | refine k_assignD rfl rfl ?_ | refine k_moveD rfl rfl ?_ | refine k_loadBD rfl rfl rfl (by first | rfl | (simp only [cellsD]; rfl)) ?_ | refine k_extract rfl rfl rfl ?_ | refine k_not rfl rfl ?_ | refine k_lookM rfl rfl rfl (by assumption) ?_)
    | refine run_opsEnd ?_
    | refine run_region ?_
    | refine run_condT rfl (by first | rfl | assumption) ?_
    | fail)
    refine run_retA () id (tm := [(7, .dat (.val (.bool false)))]) ?_ (resA_tmp rfl rfl)
    (refine ⟨?_, ?_, by rfl⟩ <;> repeat' (first | exact trivial | exact ALe.ptr rfl | exact ALe.own rfl | exact ALe.elt rfl | exact BLe.boxD _ _ | exact BLe.row rfl | exact BLe.res | exact BLe.dead rfl | exact ALe.dat (PLe.refl _) | exact CLe.nil | refine And.intro ?_ ?_ | refine ALe.iface ?_ | refine ALe.clo ?_ | refine CLe.cons ?_ ?_ | refine BLe.box ?_ | refine BLe.row ?_ | exact ALe.any _ | refine ALe.dat (PLe.of_eq ?_)))
  | some x =>
    have hC := hE x hlk
    have e : eqG m y = eqJ x y.2 := by unfold eqG; rw [hlk]
    rw [e]
    repeat' (first
    | refine run_seq ?_
    | (refine k_pick rfl ?_; first | refine k_assignD rfl rfl ?_ | refine k_moveD rfl rfl ?_ | refine k_loadBD rfl rfl rfl (by first | rfl | (simp only [cellsD]; rfl)) ?_ | refine k_extract rfl rfl rfl ?_ | refine k_not rfl rfl ?_ | refine k_lookM rfl rfl rfl (by assumption) ?_)
    | refine run_opsEnd ?_
    | refine run_region ?_
    | refine run_condF rfl (by first | rfl | assumption) ?_
    | refine run_skip ?_
    | refine run_drawC (by kernel_rfl) ?_
    | refine c_nil (And.intro (by kernel_rfl) ?_)
    | refine c_pick (d_assignD rfl rfl) ?_
    | refine c_pick (d_moveD rfl rfl) ?_
    | refine c_pick (d_loadBD rfl rfl rfl (by first | rfl | (simp only [cellsD]; rfl))) ?_
    | refine c_pick (d_loadBP rfl rfl rfl rfl) ?_
    | refine c_pick (d_acallB (thk [(1000, _)] 200) rfl (by kernel_rfl) ((reuse_c .any _)) rfl rfl rfl rfl rfl) ?_
    | refine c_pick (d_moveI rfl rfl) ?_
    | refine c_pick (d_callZ gV rfl (by kernel_rfl) rfl (by first | exact hC) Flat.val) ?_
    | fail)
    refine run_retA () id (tm := [(7, .dat (.val (.bool (eqJ x y.2))))]) ?_ (resA_tmp rfl rfl)
    (refine ⟨?_, ?_, by rfl⟩ <;> repeat' (first | exact trivial | exact ALe.ptr rfl | exact ALe.own rfl | exact ALe.elt rfl | exact BLe.boxD _ _ | exact BLe.row rfl | exact BLe.res | exact BLe.dead rfl | exact ALe.dat (PLe.refl _) | exact CLe.nil | refine And.intro ?_ ?_ | refine ALe.iface ?_ | refine ALe.clo ?_ | refine CLe.cons ?_ ?_ | refine BLe.box ?_ | refine BLe.row ?_ | exact ALe.any _ | refine ALe.dat (PLe.of_eq ?_)))
set_option maxHeartbeats 4000000 in
theorem eqIter_c (m q : List (ByteArray × JV)) (hE : ∀ y ∈ q, ∀ x, lkJ m y.1 = some x → PCall Try.prog 79 [dvA, dvV x, dvV y.2] (.val (.bool (eqJ x y.2)))) :
    ACall1 Try.prog 167 [.dat (dvMm q), .dat dvA, .clo 172 [.ptr 1000 0, .ptr 1001 0, .ptr 1002 0]]
    [(1000, .box 238 [.dat (dvMm m)]), (1001, .box 159 [.dat dvA]), (1002, .box 139 [.ptr 1003 0]), (1003, .box 173 [.dat (.val .nilIface)])]
    (.dat (.val (.bool (q.all (eqG m)))))
    [(1000, .box 238 [.dat (dvMm m)]), (1001, .box 159 [.dat dvA]), (1002, .box 139 [.ptr 1003 0]), (1003, .box 173 [.any])] := by
  refine acall_of_run Try.func167 rfl Try.ntmps167 rfl (fun X => ?_)
  by_cases hn : q = []
  · subst hn
    have hq : decide (((([] : List (ByteArray × JV)).length : Nat) : Int) = 0) = true := rfl
    repeat' (first
    | refine run_seq ?_
    | (refine k_pick rfl ?_; first | refine k_assignD rfl rfl ?_ | refine k_moveD rfl rfl ?_ | refine k_bin2B rfl rfl rfl rfl ?_ | refine k_lenM rfl rfl ?_)
    | refine run_opsEnd ?_
    | refine run_region ?_
    | refine run_condT rfl (by first | rfl | assumption) ?_
    | fail)
    refine run_retA () id (tm := [(6, .dat (.val (.bool true)))]) ?_ (resA_tmp rfl rfl)
    (refine ⟨?_, ?_, by rfl⟩ <;> repeat' (first | exact trivial | exact ALe.ptr rfl | exact ALe.own rfl | exact ALe.elt rfl | exact BLe.boxD _ _ | exact BLe.row rfl | exact BLe.res | exact BLe.dead rfl | exact ALe.dat (PLe.refl _) | exact CLe.nil | refine And.intro ?_ ?_ | refine ALe.iface ?_ | refine ALe.clo ?_ | refine CLe.cons ?_ ?_ | refine BLe.box ?_ | refine BLe.row ?_ | exact ALe.any _ | refine ALe.dat (PLe.of_eq ?_)))
  · have hq : decide (((q.length : Nat) : Int) = 0) = false := by
      cases q with
      | nil => exact absurd rfl hn
      | cons x r => simp; omega
    repeat' (first
    | refine run_seq ?_
    | (refine k_pick rfl ?_; first | refine k_rangeM rfl rfl rfl ?_ | refine k_assignD rfl rfl ?_ | refine k_moveD rfl rfl ?_ | refine k_bin2B rfl rfl rfl rfl ?_ | refine k_assignP rfl rfl ?_ | refine k_moveP rfl rfl ?_ | refine k_invAS1 (thk [] 200) rfl rfl (by kernel_rfl) (alloc_c) rfl trivial rfl (freshB_ok rfl) rfl ?_ | refine k_nilI rfl rfl ?_ | refine k_ifaceP rfl rfl (by kernel_rfl) ?_ | refine k_lenM rfl rfl ?_ | refine k_deferA rfl free_idle ?_)
    | refine run_opsEnd ?_
    | refine run_region ?_
    | refine run_condF rfl (by first | rfl | assumption) ?_
    | refine run_block ?_
    | refine run_skip ?_
    | fail)
    refine run_loopS (ι := { done : List (ByteArray × JV) // (done.map (·.1)).Nodup ∧ (∀ y ∈ done, y ∈ q) ∧ ∀ y ∈ done, eqG m y = true })
      (fun k => [(2, .clo 172 [.ptr 1000 0, .ptr 1001 0, .ptr 1002 0]), (7, .ptr 200 0), (20, .own 20)])
      (fun k => [(20, .res (itR q k.1)), (200, .box 173 [.any]), (1000, .box 238 [.dat (dvMm m)]), (1001, .box 159 [.dat dvA]), (1002, .box 139 [.ptr 1003 0]), (1003, .box 173 [.any])])
      (fun k => q.length - k.1.length) ⟨[], by simp, by simp, by simp⟩ id ?_ ?_
    · (refine ⟨?_, ?_, by rfl⟩ <;> repeat' (first | exact trivial | exact ALe.ptr rfl | exact ALe.own rfl | exact ALe.elt rfl | exact BLe.boxD _ _ | exact BLe.row rfl | exact BLe.res | exact BLe.dead rfl | exact ALe.dat (PLe.refl _) | exact CLe.nil | refine And.intro ?_ ?_ | refine ALe.iface ?_ | refine ALe.clo ?_ | refine CLe.cons ?_ ?_ | refine BLe.box ?_ | refine BLe.row ?_ | exact ALe.any _ | refine ALe.dat (PLe.of_eq ?_)))
    rintro ⟨done, hnd, hsub, hall⟩
    repeat' (first
    | refine run_seq ?_
    | refine run_region ?_
    | fail)
    refine k_pick rfl (k_nextM rfl rfl rfl (fun hev => ?_) (fun y hy hny => ?_))
    · have e : q.all (eqG m) = true := List.all_eq_true.2 fun y hy => hall y (hev y hy)
      rw [e]
      repeat' (first
    | refine run_seq ?_
    | (refine k_pick rfl ?_; first | refine k_assignD rfl rfl ?_ | refine k_extract rfl rfl rfl ?_)
    | refine run_opsEnd ?_
    | refine run_region ?_
    | refine run_condF rfl (by first | rfl | assumption) ?_
    | refine run_exit rfl ?_
    | fail)
      refine run_retA () id (tm := [(6, .dat (.val (.bool true)))]) ?_ (resA_tmp rfl rfl)
      (refine ⟨?_, ?_, by rfl⟩ <;> repeat' (first | exact trivial | exact ALe.ptr rfl | exact ALe.own rfl | exact ALe.elt rfl | exact BLe.boxD _ _ | exact BLe.row rfl | exact BLe.res | exact BLe.dead rfl | exact ALe.dat (PLe.refl _) | exact CLe.nil | refine And.intro ?_ ?_ | refine ALe.iface ?_ | refine ALe.clo ?_ | refine CLe.cons ?_ ?_ | refine BLe.box ?_ | refine BLe.row ?_ | exact ALe.any _ | refine ALe.dat (PLe.of_eq ?_)))
    · have hC := eqClo_c m y (hE y hy)
      cases hr : eqG m y with
      | true =>
        rw [hr] at hC
        repeat' (first
    | refine run_seq ?_
    | (refine k_pick rfl ?_; first | refine k_entryM rfl rfl rfl ?_ | refine k_assignD rfl rfl ?_ | refine k_moveD rfl rfl ?_ | refine k_extract rfl rfl rfl ?_ | refine k_not rfl rfl ?_ | refine k_moveP rfl rfl ?_ | refine k_acall1 (thk [(1000, _)] 200) rfl (by kernel_rfl) (reuse_c .any _) rfl ⟨rfl, trivial⟩ rfl (freshB_ok rfl) rfl ?_ | refine k_cloA1 (thk [(1000, _), (1001, _), (1002, _), (1003, _), (1004, _)] 200) rfl rfl (by kernel_rfl) (hC) rfl ⟨rfl, ⟨rfl, ⟨rfl, ⟨rfl, ⟨rfl, trivial⟩⟩⟩⟩⟩ rfl (freshB_ok rfl) rfl ?_ | refine k_moveC rfl rfl ?_)
    | refine run_opsEnd ?_
    | refine run_region ?_
    | refine run_condT rfl (by first | rfl | assumption) ?_
    | refine run_condF rfl (by first | rfl | assumption) ?_
    | refine run_block ?_
    | refine run_blkEnd ?_
    | refine run_skip ?_
    | fail)
        refine run_again ?_
        refine ⟨⟨done ++ [y], ?_, ?_, ?_⟩, id, ?_, ?_⟩
        · rw [List.map_append, List.nodup_append]
          exact ⟨hnd, by simp, fun a ha b hb => by simp at hb; subst hb; exact fun e => hny (e ▸ ha)⟩
        · intro z hz
          rcases List.mem_append.1 hz with hz | hz
          · exact hsub z hz
          · simp at hz; rw [hz]; exact hy
        · intro z hz
          rcases List.mem_append.1 hz with hz | hz
          · exact hall z hz
          · simp at hz; rw [hz]; exact hr
        · have h1 : (done ++ [y]).length ≤ q.length := by
            have := nodup_len (a := (done ++ [y]).map (·.1)) (l := q.map (·.1)) (by
              rw [List.map_append, List.nodup_append]
              exact ⟨hnd, by simp, fun a ha b hb => by simp at hb; subst hb; exact fun e => hny (e ▸ ha)⟩) (fun x hx => by
              obtain ⟨z, hz, rfl⟩ := List.mem_map.1 hx
              rcases List.mem_append.1 hz with hz | hz
              · exact List.mem_map_of_mem (hsub z hz)
              · simp at hz; rw [hz]; exact List.mem_map_of_mem hy)
            simpa using this
          simp only [List.length_append, List.length_cons, List.length_nil] at h1 ⊢
          omega
        (refine ⟨?_, ?_, by rfl⟩ <;> repeat' (first | exact trivial | exact ALe.ptr rfl | exact ALe.own rfl | exact ALe.elt rfl | exact BLe.boxD _ _ | exact BLe.row rfl | exact BLe.res | exact BLe.dead rfl | exact ALe.dat (PLe.refl _) | exact CLe.nil | refine And.intro ?_ ?_ | refine ALe.iface ?_ | refine ALe.clo ?_ | refine CLe.cons ?_ ?_ | refine BLe.box ?_ | refine BLe.row ?_ | exact ALe.any _ | refine ALe.dat (PLe.of_eq ?_)))
      | false =>
        rw [hr] at hC
        have e : q.all (eqG m) = false := by
          cases h : q.all (eqG m) with
          | false => rfl
          | true => rw [List.all_eq_true.1 h y hy] at hr; cases hr
        rw [e]
        repeat' (first
    | refine run_seq ?_
    | (refine k_pick rfl ?_; first | refine k_entryM rfl rfl rfl ?_ | refine k_assignD rfl rfl ?_ | refine k_moveD rfl rfl ?_ | refine k_extract rfl rfl rfl ?_ | refine k_not rfl rfl ?_ | refine k_moveP rfl rfl ?_ | refine k_acall1 (thk [(1000, _)] 200) rfl (by kernel_rfl) (reuse_c .any _) rfl ⟨rfl, trivial⟩ rfl (freshB_ok rfl) rfl ?_ | refine k_cloA1 (thk [(1000, _), (1001, _), (1002, _), (1003, _), (1004, _)] 200) rfl rfl (by kernel_rfl) (hC) rfl ⟨rfl, ⟨rfl, ⟨rfl, ⟨rfl, ⟨rfl, trivial⟩⟩⟩⟩⟩ rfl (freshB_ok rfl) rfl ?_ | refine k_moveC rfl rfl ?_)
    | refine run_opsEnd ?_
    | refine run_region ?_
    | refine run_condT rfl (by first | rfl | assumption) ?_
    | refine run_block ?_
    | refine run_skip ?_
    | fail)
        refine run_retA () id (tm := [(6, .dat (.val (.bool false)))]) ?_ (resA_tmp rfl rfl)
        (refine ⟨?_, ?_, by rfl⟩ <;> repeat' (first | exact trivial | exact ALe.ptr rfl | exact ALe.own rfl | exact ALe.elt rfl | exact BLe.boxD _ _ | exact BLe.row rfl | exact BLe.res | exact BLe.dead rfl | exact ALe.dat (PLe.refl _) | exact CLe.nil | refine And.intro ?_ ?_ | refine ALe.iface ?_ | refine ALe.clo ?_ | refine CLe.cons ?_ ?_ | refine BLe.box ?_ | refine BLe.row ?_ | exact ALe.any _ | refine ALe.dat (PLe.of_eq ?_)))
end Go.Proofs.Ytbbacpdbbmjblaa
end
section
set_option linter.unusedVariables false
namespace Go.Proofs.Ytbbacpdbbmjblaa
open Go.RowKit
set_option linter.unusedSimpArgs false
set_option maxHeartbeats 4000000 in
theorem mapEq_p (m q : List (ByteArray × JV)) (hE : ∀ y ∈ q, ∀ x, lkJ m y.1 = some x → PCall Try.prog 79 [dvA, dvV x, dvV y.2] (.val (.bool (eqJ x y.2)))) :
    PCall Try.prog 162 [dvMm m, dvA, dvM q] (.val (.bool (Nat.beq m.length q.length && eqJm m q))) := by
  have hC := eqIter_c m q hE
  rw [eqJm_all]
  refine pcall_of_run Try.func162 rfl Try.ntmps162 rfl (fun X => ?_)
  by_cases hl : m.length = q.length
  · have hq0 : decide (((m.length : Nat) : Int) ≠ ((q.length : Nat) : Int)) = false := by simp; omega
    have e1 : Nat.beq m.length q.length = true := by rw [hl]; simp
    rw [e1, Bool.true_and]
    by_cases hn : q = []
    · subst hn
      have hn2 : m = [] := List.eq_nil_of_length_eq_zero hl
      subst hn2
      have hq1 : decide (((([] : List (ByteArray × JV)).length : Nat) : Int) = 0) = true := rfl
      repeat' (first
    | refine run_seq ?_
    | (refine k_pick rfl ?_; first | refine k_assignD rfl rfl ?_ | refine k_moveD rfl rfl ?_ | refine k_loadW rfl rfl rfl (by first | rfl | (simp only [cellsD]; rfl)) ?_ | refine k_bin2B rfl rfl rfl rfl ?_ | refine k_boxW rfl rfl rfl (by first | rfl | (simp only [cellsD]; rfl)) ?_ | refine k_call rfl (by kernel_rfl) rfl (by first | exact lenM_p _) ?_ | refine k_invS rfl rfl (by kernel_rfl) rfl (by first | exact lenM_p _) ?_)
    | refine run_opsEnd ?_
    | refine run_region ?_
    | refine run_condT rfl (by first | rfl | assumption) ?_
    | refine run_condF rfl (by first | rfl | assumption) ?_
    | refine run_skip ?_
    | refine run_retOk (resOk_tmp rfl rfl ?_)
    | fail)
      all_goals exact PLe.refl _
    · have hq1 : decide (((m.length : Nat) : Int) = 0) = false := by
        rw [hl]
        cases q with
        | nil => exact absurd rfl hn
        | cons x r => simp; omega
      repeat' (first
    | refine run_seq ?_
    | (refine k_pick rfl ?_; first | refine k_assignD rfl rfl ?_ | refine k_moveD rfl rfl ?_ | refine k_loadW rfl rfl rfl (by first | rfl | (simp only [cellsD]; rfl)) ?_ | refine k_bin2B rfl rfl rfl rfl ?_ | refine k_boxW rfl rfl rfl (by first | rfl | (simp only [cellsD]; rfl)) ?_ | refine k_call rfl (by kernel_rfl) rfl (by first | exact lenM_p _) ?_ | refine k_storeB rfl rfl rfl rfl rfl ?_ | refine k_alloc rfl rfl ?_ | refine k_invAS1 (thk [] 200) rfl rfl (by kernel_rfl) (alloc_c) rfl trivial rfl (freshB_ok rfl) rfl ?_ | refine k_invAS1 (thk [(1000, _), (1001, _), (1002, _), (1003, _)] 200) rfl rfl (by kernel_rfl) (hC) rfl ⟨rfl, ⟨rfl, ⟨rfl, ⟨rfl, trivial⟩⟩⟩⟩ rfl (freshB_ok rfl) rfl ?_ | refine k_invS rfl rfl (by kernel_rfl) rfl (by first | exact lenM_p _) ?_ | refine k_makeFunc rfl ?_)
    | refine run_opsEnd ?_
    | refine run_region ?_
    | refine run_condF rfl (by first | rfl | assumption) ?_
    | refine run_skip ?_
    | refine run_retOk (resOk_tmp rfl rfl ?_)
    | refine run_drawC (by kernel_rfl) ?_
    | refine c_nil (And.intro (by kernel_rfl) ?_)
    | refine c_pick (d_loadW rfl rfl rfl (by first | rfl | (simp only [cellsD]; rfl))) ?_
    | refine c_pick (d_loadBP rfl rfl rfl rfl) ?_
    | refine c_pick (d_nilI rfl rfl) ?_
    | refine c_pick (d_ifaceP rfl rfl (by kernel_rfl)) ?_
    | refine c_pick (d_deferA rfl free_idle) ?_
    | fail)
      all_goals exact PLe.refl _
  · have hq0 : decide (((m.length : Nat) : Int) ≠ ((q.length : Nat) : Int)) = true := by simp; omega
    have e1 : Nat.beq m.length q.length = false := by
      cases h : Nat.beq m.length q.length with
      | false => rfl
      | true => exact absurd (Nat.eq_of_beq_eq_true h) hl
    rw [e1, Bool.false_and]
    repeat' (first
    | refine run_seq ?_
    | (refine k_pick rfl ?_; first | refine k_assignD rfl rfl ?_ | refine k_moveD rfl rfl ?_ | refine k_loadW rfl rfl rfl (by first | rfl | (simp only [cellsD]; rfl)) ?_ | refine k_bin2B rfl rfl rfl rfl ?_ | refine k_boxW rfl rfl rfl (by first | rfl | (simp only [cellsD]; rfl)) ?_ | refine k_call rfl (by kernel_rfl) rfl (by first | exact lenM_p _) ?_ | refine k_invS rfl rfl (by kernel_rfl) rfl (by first | exact lenM_p _) ?_)
    | refine run_opsEnd ?_
    | refine run_region ?_
    | refine run_condT rfl (by first | rfl | assumption) ?_
    | refine run_retOk (resOk_tmp rfl rfl ?_)
    | fail)
    all_goals exact PLe.refl _
set_option maxHeartbeats 4000000 in
theorem eqNum_p : ∀ (j k : JV), (j.IsInt || j.IsFloat) = true → (k.IsInt || k.IsFloat) = true → PCall Try.prog 79 [dvA, dvV j, dvV k] (.val (.bool (eqJ j k))) := by
  intro j k hj hk
  refine pcall_of_run Try.func79 rfl Try.ntmps79 rfl (fun X => ?_)
  cases j <;> simp only [JV.IsInt, JV.IsFloat, Bool.or_self, Bool.false_eq_true, Bool.or_false, Bool.or_true] at hj <;> cases k <;> simp only [JV.IsInt, JV.IsFloat, Bool.or_self, Bool.false_eq_true, Bool.or_false, Bool.or_true] at hk
  all_goals
    repeat' (first
    | refine run_seq ?_
    | (refine k_pick rfl ?_; first | refine k_assignD rfl rfl ?_ | refine k_moveD rfl rfl ?_ | refine k_bin2B rfl rfl rfl rfl ?_ | refine k_pickT rfl rfl (by first | rfl | assumption) rfl ?_ | refine k_pickF rfl rfl (by first | rfl | assumption) rfl ?_ | refine k_invD rfl rfl rfl (by kernel_rfl) rfl (by first | exact IsFloat_p _ | exact IsInt_p _ | exact AsFloat_p _ | exact AsInt_p _) ?_ | refine k_fltC rfl rfl rfl rfl ?_ | refine k_convF (q := .f64) rfl rfl (by kernel_rfl) (by kernel_rfl) ?_)
    | refine run_opsEnd ?_
    | refine run_region ?_
    | refine run_condT rfl (by first | rfl | assumption) ?_
    | refine run_condF rfl (by first | rfl | assumption) ?_
    | (refine k_guardY rfl rfl (by first | rfl | assumption) ?_; first | refine k_moveD rfl rfl ?_ | refine k_invD rfl rfl rfl (by kernel_rfl) rfl (by first | exact IsFloat_p _ | exact IsInt_p _ | exact AsFloat_p _ | exact AsInt_p _) ?_)
    | refine k_guardNF rfl rfl (by first | rfl | assumption) rfl ?_
    | refine run_skip ?_
    | refine run_retOk (resOk_tmp rfl rfl ?_)
    | fail)
  all_goals exact PLe.of_eq (by unfold eqJ; rfl)
end Go.Proofs.Ytbbacpdbbmjblaa
end
section
set_option linter.unusedVariables false
namespace Go.Proofs.Ytbbacpdbbmjblaa
open Go.RowKit
set_option linter.unusedSimpArgs false
set_option maxHeartbeats 40000000 in
theorem eqOth_p (j k : JV) (hl : (j.IsList && k.IsList) = false) (hm : (j.IsMap && k.IsMap) = false) : PCall Try.prog 79 [dvA, dvV j, dvV k] (.val (.bool (eqJ j k))) := by
  by_cases hnum : (j.IsInt || j.IsFloat) = true ∧ (k.IsInt || k.IsFloat) = true
  · exact eqNum_p j k hnum.1 hnum.2
  refine pcall_of_run Try.func79 rfl Try.ntmps79 rfl (fun X => ?_)
  cases j <;> cases k
  all_goals first
    | exact absurd hl (fun h => Bool.noConfusion h)
    | exact absurd hm (fun h => Bool.noConfusion h)
    | exact absurd ⟨rfl, rfl⟩ hnum
    | skip
  all_goals clear hl hm hnum
  all_goals
    repeat' (first
    | refine run_seq ?_
    | (refine k_pick rfl ?_; first | refine k_assignD rfl rfl ?_ | refine k_moveD rfl rfl ?_ | refine k_bin2B rfl rfl rfl rfl ?_ | refine k_pickT rfl rfl (by first | rfl | assumption) rfl ?_ | refine k_pickF rfl rfl (by first | rfl | assumption) rfl ?_ | refine k_cmpBool rfl rfl rfl (by kernel_rfl) rfl ?_ | refine k_invD rfl rfl rfl (by kernel_rfl) rfl (by first | exact IsFloat_p _ | exact IsInt_p _ | exact IsString_p _ | exact IsBool_p _ | exact IsList_p _ | exact IsMap_p _ | exact IsNull_p _ | exact AsString_p _ | exact AsBool_p _ | exact AsFloat_p _ | exact AsInt_p _) ?_)
    | refine run_opsEnd ?_
    | refine run_region ?_
    | refine run_condT rfl (by first | rfl | assumption) ?_
    | refine run_condF rfl (by first | rfl | assumption) ?_
    | (refine k_guardY rfl rfl (by first | rfl | assumption) ?_; first | refine k_moveD rfl rfl ?_ | refine k_invD rfl rfl rfl (by kernel_rfl) rfl (by first | exact IsFloat_p _ | exact IsInt_p _ | exact IsString_p _ | exact IsBool_p _ | exact IsList_p _ | exact IsMap_p _ | exact IsNull_p _ | exact AsString_p _ | exact AsBool_p _ | exact AsFloat_p _ | exact AsInt_p _) ?_)
    | refine k_guardNF rfl rfl (by first | rfl | assumption) rfl ?_
    | refine run_skip ?_
    | refine run_retOk (resOk_tmp rfl rfl ?_)
    | fail)
  all_goals exact PLe.of_eq (by unfold eqJ; rfl)
set_option maxHeartbeats 4000000 in
theorem eqList_p (l q : List JV) (hE : ∀ x ∈ l, ∀ y ∈ q, PCall Try.prog 79 [dvA, dvV x, dvV y] (.val (.bool (eqJ x y)))) : PCall Try.prog 79 [dvA, dvV (.list l), dvV (.list q)] (.val (.bool (eqJ (.list l) (.list q)))) := by
  have hC := lstEq_p l q hE
  rw [show eqJ (.list l) (.list q) = eqJs l q by unfold eqJ; rfl]
  refine pcall_of_run Try.func79 rfl Try.ntmps79 rfl (fun X => ?_)
  repeat' (first
    | refine run_seq ?_
    | (refine k_pick rfl ?_; first | refine k_assignD rfl rfl ?_ | refine k_moveD rfl rfl ?_ | refine k_pickF rfl rfl (by first | rfl | assumption) rfl ?_ | refine k_invD rfl rfl rfl (by kernel_rfl) rfl (by first | exact IsFloat_p _ | exact IsInt_p _ | exact IsString_p _ | exact IsBool_p _ | exact IsList_p _ | exact asList_p _ | exact hC) ?_ | refine k_invS rfl rfl (by kernel_rfl) rfl (by first | exact IsFloat_p _ | exact IsInt_p _ | exact IsString_p _ | exact IsBool_p _ | exact IsList_p _ | exact asList_p _ | exact hC) ?_ | refine k_nilI rfl rfl ?_ | refine k_deferA rfl free_idle ?_)
    | refine run_opsEnd ?_
    | refine run_region ?_
    | refine run_condT rfl (by first | rfl | assumption) ?_
    | refine run_condF rfl (by first | rfl | assumption) ?_
    | (refine k_guardY rfl rfl (by first | rfl | assumption) ?_; first | refine k_moveD rfl rfl ?_ | refine k_invD rfl rfl rfl (by kernel_rfl) rfl (by first | exact IsFloat_p _ | exact IsInt_p _ | exact IsString_p _ | exact IsBool_p _ | exact IsList_p _ | exact asList_p _ | exact hC) ?_)
    | refine run_skip ?_
    | refine run_retOk (resOk_tmp rfl rfl ?_)
    | fail)
  all_goals exact PLe.refl _
set_option maxHeartbeats 4000000 in
theorem eqMap_p (m q : List (ByteArray × JV)) (hE : ∀ y ∈ q, ∀ x, lkJ m y.1 = some x → PCall Try.prog 79 [dvA, dvV x, dvV y.2] (.val (.bool (eqJ x y.2)))) : PCall Try.prog 79 [dvA, dvV (.map m), dvV (.map q)] (.val (.bool (eqJ (.map m) (.map q)))) := by
  have hC := mapEq_p m q hE
  rw [show eqJ (.map m) (.map q) = (Nat.beq m.length q.length && eqJm m q) by unfold eqJ; rfl]
  refine pcall_of_run Try.func79 rfl Try.ntmps79 rfl (fun X => ?_)
  repeat' (first
    | refine run_seq ?_
    | (refine k_pick rfl ?_; first | refine k_assignD rfl rfl ?_ | refine k_moveD rfl rfl ?_ | refine k_pickF rfl rfl (by first | rfl | assumption) rfl ?_ | refine k_invD rfl rfl rfl (by kernel_rfl) rfl (by first | exact IsFloat_p _ | exact IsInt_p _ | exact IsString_p _ | exact IsBool_p _ | exact IsList_p _ | exact IsMap_p _ | exact asMap_p _ | exact hC) ?_ | refine k_invS rfl rfl (by kernel_rfl) rfl (by first | exact IsFloat_p _ | exact IsInt_p _ | exact IsString_p _ | exact IsBool_p _ | exact IsList_p _ | exact IsMap_p _ | exact asMap_p _ | exact hC) ?_ | refine k_nilI rfl rfl ?_ | refine k_deferA rfl free_idle ?_)
    | refine run_opsEnd ?_
    | refine run_region ?_
    | refine run_condT rfl (by first | rfl | assumption) ?_
    | refine run_condF rfl (by first | rfl | assumption) ?_
    | (refine k_guardY rfl rfl (by first | rfl | assumption) ?_; first | refine k_moveD rfl rfl ?_ | refine k_invD rfl rfl rfl (by kernel_rfl) rfl (by first | exact IsFloat_p _ | exact IsInt_p _ | exact IsString_p _ | exact IsBool_p _ | exact IsList_p _ | exact IsMap_p _ | exact asMap_p _ | exact hC) ?_)
    | refine run_skip ?_
    | refine run_retOk (resOk_tmp rfl rfl ?_)
    | fail)
  all_goals exact PLe.refl _
theorem eqv_p : ∀ (k j : JV), PCall Try.prog 79 [dvA, dvV j, dvV k] (.val (.bool (eqJ j k)))
  | .list q, .list l => eqList_p l q (fun x _ y hy => eqv_p y x)
  | .map q, .map m => eqMap_p m q (fun y hy x _ => eqv_p y.2 x)
  | .list q, .null => eqOth_p _ _ rfl rfl
  | .list q, .bool _ => eqOth_p _ _ rfl rfl
  | .list q, .int _ => eqOth_p _ _ rfl rfl
  | .list q, .flt _ => eqOth_p _ _ rfl rfl
  | .list q, .str _ => eqOth_p _ _ rfl rfl
  | .list q, .map _ => eqOth_p _ _ rfl rfl
  | .map q, .null => eqOth_p _ _ rfl rfl
  | .map q, .bool _ => eqOth_p _ _ rfl rfl
  | .map q, .int _ => eqOth_p _ _ rfl rfl
  | .map q, .flt _ => eqOth_p _ _ rfl rfl
  | .map q, .str _ => eqOth_p _ _ rfl rfl
  | .map q, .list _ => eqOth_p _ _ rfl rfl
  | .null, j => eqOth_p _ _ (by cases j <;> rfl) (by cases j <;> rfl)
  | .bool _, j => eqOth_p _ _ (by cases j <;> rfl) (by cases j <;> rfl)
  | .int _, j => eqOth_p _ _ (by cases j <;> rfl) (by cases j <;> rfl)
  | .flt _, j => eqOth_p _ _ (by cases j <;> rfl) (by cases j <;> rfl)
  | .str _, j => eqOth_p _ _ (by cases j <;> rfl) (by cases j <;> rfl)
termination_by k => SizeOf.sizeOf k
decreasing_by
  all_goals simp_wf
  · have := List.sizeOf_lt_of_mem hy; omega
  · have := List.sizeOf_lt_of_mem hy
    obtain ⟨y1, y2⟩ := y
    simp at this ⊢
    omega
theorem equals_p (j k : JV) : PCall Try.prog 49 [dvV j, dvV k] (.val (.bool (eqJ j k))) := by
  have hC := eqv_p k j
  refine pcall_of_run Try.func49 rfl Try.ntmps49 rfl (fun X => ?_)
  repeat' (first
    | refine run_seq ?_
    | (refine k_pick rfl ?_; first | refine k_assignD rfl rfl ?_ | refine k_moveD rfl rfl ?_ | refine k_boxW rfl rfl rfl (by first | rfl | (simp only [cellsD]; rfl)) ?_ | refine k_build rfl rfl rfl ?_ | refine k_ifaceP rfl rfl (by kernel_rfl) ?_ | refine k_callZ gV rfl (by kernel_rfl) rfl (by first | exact hC) Flat.val ?_)
    | refine run_opsEnd ?_
    | refine run_region ?_
    | refine run_retOk (resOk_tmp rfl rfl ?_)
    | fail)
  all_goals exact PLe.refl _
end Go.Proofs.Ytbbacpdbbmjblaa
end
section
set_option linter.unusedVariables false
namespace Go.Proofs.Ytbbacpdbbmjblaa
set_option linter.unusedSimpArgs false
theorem eqP_mk {k n : Int} {f : Nat} {s : ByteArray} {ks : List ByteArray} {l : List GV} {k' n' : Int} {f' : Nat} {s' : ByteArray} {ks' : List ByteArray} {l' : List GV} (h : (isNum (.mk k n f s ks l) && isNum (.mk k' n' f' s' ks' l')) = false) :
    eqP (.mk k n f s ks l) (.mk k' n' f' s' ks' l') = (decide (k = k') && (decide (n = n') && (decide (s = s') && (decide (ks = ks') && eqPs l l')))) := by
  unfold eqP; rw [if_neg (by rw [h]; simp)]
theorem eq_list : ∀ (b a : List JV), (∀ y ∈ b, ∀ x, JOk x → JOk y → eqP (unJ x) (unJ y) = eqJ x y) → JOks a → JOks b → eqPs (unJs a) (unJs b) = eqJs a b
  | [], [], _, _, _ => by simp only [unJs, eqPs, eqJs]
  | [], _ :: _, _, _, _ => by simp only [unJs, eqPs, eqJs]
  | _ :: _, [], _, _, _ => by simp only [unJs, eqPs, eqJs]
  | y :: b, x :: a, ih, ha, hb => by
    simp only [JOks] at ha hb
    simp only [unJs, eqPs, eqJs]
    rw [ih y (by simp) x ha.1 hb.1, eq_list b a (fun z hz => ih z (by simp [hz])) ha.2 hb.2]
theorem eqJm_iff (m : List (ByteArray × JV)) : ∀ q : List (ByteArray × JV), eqJm m q = true ↔ ∀ y ∈ q, ∃ x, getA m y.1 = some x ∧ eqJ x y.2 = true
  | [] => by simp [eqJm]
  | y :: q => by
    unfold eqJm
    rw [Bool.and_eq_true, eqJm_iff m q, lkJ_getA]
    constructor
    · rintro ⟨h1, h2⟩ z hz
      rcases List.mem_cons.1 hz with rfl | hz
      · cases hg : getA m z.1 with
        | none => rw [hg] at h1; cases h1
        | some x => rw [hg] at h1; exact ⟨x, rfl, h1⟩
      · exact h2 z hz
    · intro h
      obtain ⟨x, hx, he⟩ := h y (by simp)
      exact ⟨by rw [hx]; exact he, fun z hz => h z (by simp [hz])⟩
theorem eq_map (m q : List (ByteArray × JV)) (ih : ∀ y ∈ q, ∀ x, JOk x → JOk y.2 → eqP (unJ x) (unJ y.2) = eqJ x y.2) (hm : JOk (.map m)) (hq : JOk (.map q)) : eqP (unJ (.map m)) (unJ (.map q)) = eqJ (.map m) (.map q) := by
  unfold JOk at hm hq
  obtain ⟨ks, l, e1, hi, hl, hk, hg⟩ := unM_form hm.1
  obtain ⟨ks', l', e2, hi', hl', hk', hg'⟩ := unM_form hq.1
  have hJm : ∀ {k j}, getA m k = some j → JOk j := fun h => JOkm_mem hm.2.2 _ (getA_mem h)
  have hJq : ∀ {k j}, getA q k = some j → JOk j := fun h => JOkm_mem hq.2.2 _ (getA_mem h)
  rw [show unJ (.map m) = unM m gMap by unfold unJ; rfl, show unJ (.map q) = unM q gMap by unfold unJ; rfl, e1, e2, eqP_mk (by simp [isNum, GV.kind]), show eqJ (.map m) (.map q) = (Nat.beq m.length q.length && eqJm m q) by unfold eqJ; rfl]
  simp only [decide_true, Bool.true_and]
  rw [Bool.eq_iff_iff]
  simp only [Bool.and_eq_true, decide_eq_true_eq, eqJm_iff]
  constructor
  · rintro ⟨rfl, h2⟩
    have hmm : ∀ k, k ∈ m.map (·.1) ↔ k ∈ q.map (·.1) := fun k => (hk k).symm.trans (hk' k)
    have l1 := nodup_len hm.1 (fun x hx => (hmm x).1 hx)
    have l2 := nodup_len hq.1 (fun x hx => (hmm x).2 hx)
    simp only [List.length_map] at l1 l2
    refine ⟨by rw [show m.length = q.length by omega]; simp, fun y hy => ?_⟩
    have hgy := getA_of_mem hq.1 (show (y.1, y.2) ∈ q from hy)
    obtain ⟨i, h3, h4⟩ := (hg' y.1 (unJ y.2)).2 ⟨y.2, hgy, rfl⟩
    have hlt := (List.getElem?_eq_some_iff.1 h3).1
    have h5 : l[i]? = some l[i] := List.getElem?_eq_getElem (hl ▸ hlt)
    obtain ⟨x, h6, h7⟩ := (hg y.1 l[i]).1 ⟨i, h3, h5⟩
    refine ⟨x, h6, ?_⟩
    rw [← ih y hy x (hJm h6) (hJq hgy), h7]
    exact eqPs_all h2 i _ _ h5 h4
  · rintro ⟨h1, h2⟩
    have hlen := Nat.eq_of_beq_eq_true h1
    have hsub : ∀ k ∈ q.map (·.1), k ∈ m.map (·.1) := fun k hk => by
      obtain ⟨y, hy, rfl⟩ := List.mem_map.1 hk
      obtain ⟨x, hx, _⟩ := h2 y hy
      exact List.mem_map_of_mem (f := (·.1)) (getA_mem hx)
    have hsub' := nodup_sub hq.1 hsub (by simp [hlen])
    have ek : ks = ks' := incr_ext hi hi' fun k => (hk k).trans ⟨fun h => (hk' k).2 (hsub' k h), fun h => hsub k ((hk' k).1 h)⟩
    subst ek
    refine ⟨rfl, eqPs_true (by omega) fun i x y hx hy => ?_⟩
    have hlt : i < ks.length := by rw [hl]; exact (List.getElem?_eq_some_iff.1 hx).1
    have hki : ks[i]? = some ks[i] := List.getElem?_eq_getElem hlt
    obtain ⟨x0, h3, rfl⟩ := (hg ks[i] x).1 ⟨i, hki, hx⟩
    obtain ⟨y0, h4, rfl⟩ := (hg' ks[i] y).1 ⟨i, hki, hy⟩
    obtain ⟨x1, h5, h6⟩ := h2 (ks[i], y0) (getA_mem h4)
    have h5 : getA m ks[i] = some x1 := h5
    rw [h3] at h5
    cases h5
    rw [ih (ks[i], y0) (getA_mem h4) x0 (hJm h3) (hJq h4)]
    exact h6
theorem eq_law : ∀ (k j : JV), JOk j → JOk k → eqP (unJ j) (unJ k) = eqJ j k
  | .list b, .list a, ha, hb => by
    unfold JOk at ha hb
    rw [show unJ (.list a) = .mk 5 0 0 ByteArray.empty [] (unJs a) by unfold unJ; rfl, show unJ (.list b) = .mk 5 0 0 ByteArray.empty [] (unJs b) by unfold unJ; rfl, eqP_mk (by simp [isNum, GV.kind]), show eqJ (.list a) (.list b) = eqJs a b by unfold eqJ; rfl]
    simp only [decide_true, Bool.true_and]
    exact eq_list b a (fun y hy x hx hy' => eq_law y x hx hy') ha.2 hb.2
  | .map q, .map m, ha, hb => eq_map m q (fun y hy x hx hy' => eq_law y.2 x hx hy') ha hb
  | .null, j, _, _ => by
    cases j <;> simp only [unJ, gNull, gv, eqJ]
    case map => rename_i m _h; obtain ⟨ks, l, e, _⟩ := unM_plain m gMap gMap_plain; rw [e, eqP_mk (by simp [isNum, GV.kind])]; simp
    all_goals (rw [eqP_mk (by simp [isNum, GV.kind])]; simp [eqPs])
  | .bool b, j, _, _ => by
    cases j <;> simp only [unJ, gNull, gv, eqJ]
    case map => rename_i m _h; obtain ⟨ks, l, e, _⟩ := unM_plain m gMap gMap_plain; rw [e, eqP_mk (by simp [isNum, GV.kind])]; simp
    case bool => rename_i a _h; rw [eqP_mk (by simp [isNum, GV.kind])]; cases a <;> cases b <;> simp [eqPs]
    all_goals (rw [eqP_mk (by simp [isNum, GV.kind])]; simp [eqPs])
  | .int n, j, _, _ => by
    cases j <;> simp only [unJ, gNull, gv, eqJ]
    case map => rename_i m _h; obtain ⟨ks, l, e, _⟩ := unM_plain m gMap gMap_plain; rw [e, eqP_mk (by simp [isNum, GV.kind])]; simp
    case int => simp [eqP, isNum, GV.kind]
    case flt => simp [eqP, isNum, GV.kind, asF, GV.n, GV.f]
    all_goals (rw [eqP_mk (by simp [isNum, GV.kind])]; simp [eqPs])
  | .flt n, j, _, _ => by
    cases j <;> simp only [unJ, gNull, gv, eqJ]
    case map => rename_i m _h; obtain ⟨ks, l, e, _⟩ := unM_plain m gMap gMap_plain; rw [e, eqP_mk (by simp [isNum, GV.kind])]; simp
    case int => simp [eqP, isNum, GV.kind, asF, GV.n, GV.f]
    case flt => simp [eqP, isNum, GV.kind, asF, GV.n, GV.f]
    all_goals (rw [eqP_mk (by simp [isNum, GV.kind])]; simp [eqPs])
  | .str n, j, _, _ => by
    cases j <;> simp only [unJ, gNull, gv, eqJ]
    case map => rename_i m _h; obtain ⟨ks, l, e, _⟩ := unM_plain m gMap gMap_plain; rw [e, eqP_mk (by simp [isNum, GV.kind])]; simp
    all_goals (rw [eqP_mk (by simp [isNum, GV.kind])]; simp [eqPs])
  | .list b, .null, _, _ => by simp only [unJ, gNull, gv, eqJ]; rw [eqP_mk (by simp [isNum, GV.kind])]; simp
  | .list b, .bool _, _, _ => by simp only [unJ, gNull, gv, eqJ]; rw [eqP_mk (by simp [isNum, GV.kind])]; simp
  | .list b, .int _, _, _ => by simp only [unJ, gNull, gv, eqJ]; rw [eqP_mk (by simp [isNum, GV.kind])]; simp
  | .list b, .flt _, _, _ => by simp only [unJ, gNull, gv, eqJ]; rw [eqP_mk (by simp [isNum, GV.kind])]; simp
  | .list b, .str _, _, _ => by simp only [unJ, gNull, gv, eqJ]; rw [eqP_mk (by simp [isNum, GV.kind])]; simp
  | .list b, .map m, _, _ => by simp only [unJ, gNull, gv, eqJ]; obtain ⟨ks, l, e, _⟩ := unM_plain m gMap gMap_plain; rw [e, eqP_mk (by simp [isNum, GV.kind])]; simp
  | .map q, .null, _, _ => by simp only [unJ, gNull, gv, eqJ]; obtain ⟨ks, l, e, _⟩ := unM_plain q gMap gMap_plain; rw [e, eqP_mk (by simp [isNum, GV.kind])]; simp
  | .map q, .bool _, _, _ => by simp only [unJ, gNull, gv, eqJ]; obtain ⟨ks, l, e, _⟩ := unM_plain q gMap gMap_plain; rw [e, eqP_mk (by simp [isNum, GV.kind])]; simp
  | .map q, .int _, _, _ => by simp only [unJ, gNull, gv, eqJ]; obtain ⟨ks, l, e, _⟩ := unM_plain q gMap gMap_plain; rw [e, eqP_mk (by simp [isNum, GV.kind])]; simp
  | .map q, .flt _, _, _ => by simp only [unJ, gNull, gv, eqJ]; obtain ⟨ks, l, e, _⟩ := unM_plain q gMap gMap_plain; rw [e, eqP_mk (by simp [isNum, GV.kind])]; simp
  | .map q, .str _, _, _ => by simp only [unJ, gNull, gv, eqJ]; obtain ⟨ks, l, e, _⟩ := unM_plain q gMap gMap_plain; rw [e, eqP_mk (by simp [isNum, GV.kind])]; simp
  | .map q, .list _, _, _ => by simp only [unJ, gNull, gv, eqJ]; obtain ⟨ks, l, e, _⟩ := unM_plain q gMap gMap_plain; rw [e, eqP_mk (by simp [isNum, GV.kind])]; simp
termination_by k => SizeOf.sizeOf k
decreasing_by
  all_goals simp_wf
  · have := List.sizeOf_lt_of_mem hy; omega
  · have := List.sizeOf_lt_of_mem hy
    obtain ⟨y1, y2⟩ := y
    simp at this ⊢
    omega
end Go.Proofs.Ytbbacpdbbmjblaa
end
section
set_option linter.unusedVariables false
namespace Go.Proofs.Ytbbacpdbbmjblaa
open Go.RowKit
set_option linter.unusedSimpArgs false
section
variable {P : Program} {X : Base} {N : Nat} {Q : Exit → Act → World → Prop} {ops : Array Oper} {rem : List Nat} {ks : List Itm} {s s' : Sta} {a : Act} {w w' : World} {ρ : Nat → RV}
theorem op_buildSliceF {o : Oper} (hd : dstOk X.N o.dst = true) {t len : Nat} {parts : Array (Nat × Operand)} (ho : o.op = .buildSlice t len parts) {e n y : Nat} (ht : slcI P t = some (e, n, y)) (hz : zlen P e = some n)
    {ds : List PD} (hds : partsD s n 0 parts.toList = some ds) (hlen : ds.length = len) (hn : Nat.blt 0 n = true) (hsm : Nat.ble (len * n) 16777216 = true) (hby : Nat.ble (len * y) 140737488351232 = true) :
    OpS P X o s (s.put o.dst (.dat (.sl n y ds))) := by
  intro a w ⟨ρ, hcc⟩ K Q hK
  have hn := (Nat.blt_eq.mp hn : 0 < n)
  have hsm := Nat.le_of_ble_eq_true hsm
  have hby := Nat.le_of_ble_eq_true hby
  obtain ⟨inf, hu, hi1, hs1, hb1⟩ := slcI_spec ht
  obtain ⟨i2, z, hi2, hz1, hz2, hz3⟩ := zlen_spec hz
  rw [hi1] at hi2
  cases hi2
  obtain ⟨vs, e1, e2, e3, e4⟩ := parts_spec hcc hds
  have hflat : (vs.flatMap fun v => v.cells.toList).length = len * n := by rw [e4.length, hlen]
  have hvl : vs.length = len := e2.trans hlen
  have hrun : (Instr.buildSlice t len (parts.map fun (i, x) => (i, a.eval x))).run P w = .ok (.slice (some ⟨w.heap.size, 0, none⟩) len len) (w.alloc (.cells (vs.flatMap fun v => v.cells.toList).toArray e)) := by
    have hp : (parts.map fun (i, x) => (i, a.eval x)).toList = (vs.zipIdx 0).map (fun x => (x.2, x.1)) := by rw [Array.toList_map]; exact e1
    have hfill : ∀ cells : Array Value, cells.size = len * n → Instr.fill (fun i => some (i * n, n)) cells ((vs.zipIdx 0).map fun x => (x.2, x.1)) = some (vs.flatMap fun v => v.cells.toList).toArray := fun cells hcs =>
      Great.fill_whole hn vs cells e3 (by rw [hvl, hcs])
    have hbig : ¬ (len * n > 2 ^ 24) := by omega
    by_cases h0 : len * n = 0
    · have := hfill ((Array.range (len * n)).map ((#[] : Array Value)[· % (#[] : Array Value).size]!)) (by simp)
      simp only [Instr.buildSlice, Sem.run_bind, run_underlying hu, Result.andThen_ok, sizeOf, typeInfo, run_program, hi1, Sem.run_pure, hs1, if_neg hbig, if_pos h0, hp, this, newRow, run_newObj]
      rfl
    · have := hfill ((Array.range (len * n)).map (z.cells[· % z.cells.size]!)) (by simp)
      simp only [Instr.buildSlice, Sem.run_bind, run_underlying hu, Result.andThen_ok, sizeOf, typeInfo, run_program, hi1, Sem.run_pure, hs1, if_neg hbig, if_neg h0, zeroValue, hz1, hp, this, newRow, run_newObj]
      rfl
  have hb := below_alloc w (.cells (vs.flatMap fun v => v.cells.toList).toArray e)
  have hF := FF_new hb hcc
  have hh := (MapKept.heap_alloc w (.cells (vs.flatMap fun v => v.cells.toList).toArray e)).1
  refine wp_value (v := .slice (some ⟨w.heap.size, 0, none⟩) len len) (w' := w.alloc (.cells (vs.flatMap fun v => v.cells.toList).toArray e)) (by simp [execOp, ho, hrun]) ?_
  refine hK _ _ ⟨ρ, (hcc.grow hb).putO hd ?_⟩
  unfold VR Rep
  have hg3 := e4.keep (w' := w.alloc (.cells (vs.flatMap fun v => v.cells.toList).toArray e)) (F' := FF X (w.alloc (.cells (vs.flatMap fun v => v.cells.toList).toArray e)) s.tb ρ) (fun b hb' => hb.block b hb'.2.1) (fun b hb' => hF b (.inl hb'))
  have hle : len ≤ len * n := Nat.le_mul_of_pos_right _ hn
  refine ⟨some ⟨w.heap.size, 0, none⟩, len, by rw [hlen], by rw [hlen]; exact Nat.le_refl _, by rw [hlen]; exact hby, by rw [hlen]; omega, .inr ⟨w.heap.size, 0, hF _ (.inr ⟨Nat.le_refl _, (Array.getElem?_eq_some_iff.1 hh).1⟩), rfl, ?_⟩⟩
  refine hg3.lies fun j u hj => ?_
  rw [cell_of_row _ w.heap.size (0 + j) _ _ _ hh]
  simpa using hj
theorem d_buildSliceF {ops : List Oper} {d t e n y len : Nat} {parts : Array (Nat × Operand)} {ds : List PD} (hN : Nat.blt d N = true) [ht : SI P t e n y] (hz : zlen P e = some n) (hds : partsD s n 0 parts.toList = some ds) (hlen : ds.length = len) (hn : Nat.blt 0 n = true) (hsm : Nat.ble (len * n) 16777216 = true) (hby : Nat.ble (len * y) 140737488351232 = true) :
    TrK P X N ops (some d) (.buildSlice t len parts) (Eff.put (some d) (.dat (.sl n y ds))) s (s.put (some d) (.dat (.sl n y ds))) :=
  act_val hN fun s' _ _ _ _ hd hev htb => op_buildSliceF hd rfl ht.out hz ((parts_alike (fun p hp => hev p.2 (by simp only [Op.operands]; exact List.mem_map.2 ⟨p, hp, rfl⟩))).trans hds) hlen hn hsm hby
end
end Go.Proofs.Ytbbacpdbbmjblaa
end
section
set_option linter.unusedVariables false
namespace Go.Proofs.Ytbbacpdbbmjblaa
open Go.RowKit
set_option linter.unusedSimpArgs false
theorem listEquals_p (l q : List JV) : PCall Try.prog 68 [dvL l, dvL q] (.val (.bool (eqJs l q))) := by
  have hC := listEq_dvL l q (fun x _ y _ => eqv_p y x)
  generalize eqJs l q = c at *
  refine pcall_of_run Try.func68 rfl Try.ntmps68 rfl (fun X => ?_)
  repeat' (first
    | refine run_seq ?_
    | (refine k_pick rfl ?_; first
      | refine k_assignD rfl rfl ?_
      | refine k_moveD rfl rfl ?_
      | refine k_boxW rfl rfl rfl (by first | rfl | (simp only [cellsD]; rfl)) ?_
      | refine k_build rfl rfl rfl ?_
      | refine k_box rfl rfl rfl ?_
      | refine k_ifaceP rfl rfl (by kernel_rfl) ?_
      | refine k_callZ gV rfl (by kernel_rfl) rfl (by first | exact hC) Flat.val ?_)
    | refine run_opsEnd ?_
    | refine run_region ?_
    | refine run_condT rfl (by first | rfl | assumption) ?_
    | refine run_condF rfl (by first | rfl | assumption) ?_
    | refine run_cond rfl (fun h => ?_) (fun h => ?_)
    | (refine k_guardY rfl rfl (by first | rfl | assumption) ?_; first
      | refine k_assignD rfl rfl ?_
      | refine k_moveD rfl rfl ?_
      | refine k_boxW rfl rfl rfl (by first | rfl | (simp only [cellsD]; rfl)) ?_
      | refine k_build rfl rfl rfl ?_
      | refine k_box rfl rfl rfl ?_
      | refine k_ifaceP rfl rfl (by kernel_rfl) ?_
      | refine k_callZ gV rfl (by kernel_rfl) rfl (by first | exact hC) Flat.val ?_)
    | refine k_guardU rfl rfl rfl ?_
    | refine k_guardNT rfl rfl (by first | rfl | assumption) rfl ?_
    | refine k_guardNF rfl rfl (by first | rfl | assumption) rfl ?_
    | refine k_guardT rfl rfl rfl (fun h => ?_) (fun h => ?_)
    | refine k_guardF rfl rfl rfl (fun h => ?_) (fun h => ?_)
    | refine run_block ?_
    | refine run_blkEnd ?_
    | refine run_skip ?_
    | refine run_exit rfl ?_
    | refine run_retOk (resOk_tmp rfl rfl ?_)
    | refine run_retOk (resOk_tmp2 rfl rfl rfl ?_ ?_)
    | refine run_retOk (resOk_cell rfl rfl rfl (by first | rfl | (simp only [cellsD]; rfl)) ?_)
    | refine run_retOk (resOk_cellTmp rfl rfl rfl (by first | rfl | (simp only [cellsD]; rfl)) rfl ?_ ?_)
    | (first
      | refine k_assignD rfl rfl ?_
      | refine k_moveD rfl rfl ?_
      | refine k_boxW rfl rfl rfl (by first | rfl | (simp only [cellsD]; rfl)) ?_
      | refine k_build rfl rfl rfl ?_
      | refine k_box rfl rfl rfl ?_
      | refine k_ifaceP rfl rfl (by kernel_rfl) ?_
      | refine k_callZ gV rfl (by kernel_rfl) rfl (by first | exact hC) Flat.val ?_)
    | refine run_drawC (by kernel_rfl) ?_
    | refine c_nil (And.intro (by kernel_rfl) ?_)
    | refine c_pick (d_assignD rfl rfl) ?_
    | refine c_pick (d_moveD rfl rfl) ?_
    | refine c_pick (d_boxW rfl rfl rfl (by first | rfl | (simp only [cellsD]; rfl))) ?_
    | refine c_pick (d_build rfl rfl rfl) ?_
    | refine c_pick (d_box rfl rfl rfl) ?_
    | refine c_pick (d_ifaceP rfl rfl (by kernel_rfl)) ?_
    | refine c_pick (d_callZ gV rfl (by kernel_rfl) rfl (by first | exact hC) Flat.val) ?_
    | refine c_passU rfl rfl ?_
    | refine c_passT rfl (by first | rfl | assumption) rfl ?_
    | refine c_passF rfl (by first | rfl | assumption) rfl ?_
    | refine c_pickY rfl (by first | rfl | assumption) (d_assignD rfl rfl) ?_
    | refine c_pickY rfl (by first | rfl | assumption) (d_moveD rfl rfl) ?_
    | refine c_pickY rfl (by first | rfl | assumption) (d_boxW rfl rfl rfl (by first | rfl | (simp only [cellsD]; rfl))) ?_
    | refine c_pickY rfl (by first | rfl | assumption) (d_build rfl rfl rfl) ?_
    | refine c_pickY rfl (by first | rfl | assumption) (d_box rfl rfl rfl) ?_
    | refine c_pickY rfl (by first | rfl | assumption) (d_ifaceP rfl rfl (by kernel_rfl)) ?_
    | refine c_pickY rfl (by first | rfl | assumption) (d_callZ gV rfl (by kernel_rfl) rfl (by first | exact hC) Flat.val) ?_
    | refine c_pickD rfl (by assumption) (d_assignD rfl rfl) ?_
    | refine c_pickD rfl (by assumption) (d_moveD rfl rfl) ?_
    | refine c_pickD rfl (by assumption) (d_boxW rfl rfl rfl (by first | rfl | (simp only [cellsD]; rfl))) ?_
    | refine c_pickD rfl (by assumption) (d_build rfl rfl rfl) ?_
    | refine c_pickD rfl (by assumption) (d_box rfl rfl rfl) ?_
    | refine c_pickD rfl (by assumption) (d_ifaceP rfl rfl (by kernel_rfl)) ?_
    | refine c_pickD rfl (by assumption) (d_callZ gV rfl (by kernel_rfl) rfl (by first | exact hC) Flat.val) ?_
    | refine c_splitT rfl rfl (fun h => ?_) (fun h => ?_)
    | refine c_splitF rfl rfl (fun h => ?_) (fun h => ?_)
    | fail)
  all_goals exact PLe.refl _
theorem eq_plains {a b : List GV} (ha : Fits (.sl 6 88 (pdVs a))) (hb : Fits (.sl 6 88 (pdVs b))) : eqJs (plainJs a) (plainJs b) = eqPs (cleanL a) (cleanL b) := by
  have h1 := JOks_plain ha
  have h2 := JOks_plain hb
  rw [← unJs_plainJs a (fun y _ => un_plain y), ← unJs_plainJs b (fun y _ => un_plain y)]
  exact (eq_list (plainJs b) (plainJs a) (fun y _ x hx hy => eq_law y x hx hy) h1 h2).symm
theorem equalLists_p (a b : List GV) : PCall Try.prog 34 [.sl 6 88 (pdVs a), .sl 6 88 (pdVs b)] (.val (.bool (eqPs (cleanL a) (cleanL b)))) := by
  refine pcall_fits fun hf => ?_
  have e := eq_plains (hf (.sl 6 88 (pdVs a)) (by simp)) (hf (.sl 6 88 (pdVs b)) (by simp))
  clear hf
  have c1 := toList_p a
  have c2 := toList_p b
  have c3 := listEquals_p (plainJs a) (plainJs b)
  rw [e] at c3
  clear e
  generalize eqPs (cleanL a) (cleanL b) = c at *
  generalize plainJs a = ja at *
  generalize plainJs b = jb at *
  refine pcall_of_run Try.func34 rfl Try.ntmps34 rfl (fun X => ?_)
  repeat' (first
    | refine run_seq ?_
    | (refine k_pick rfl ?_; first
      | refine k_assignD rfl rfl ?_
      | refine k_moveD rfl rfl ?_
      | refine k_call rfl (by kernel_rfl) rfl (by first | exact c1 | exact c2 | exact c3) ?_)
    | refine run_opsEnd ?_
    | refine run_region ?_
    | refine run_condT rfl (by first | rfl | assumption) ?_
    | refine run_condF rfl (by first | rfl | assumption) ?_
    | refine run_cond rfl (fun h => ?_) (fun h => ?_)
    | (refine k_guardY rfl rfl (by first | rfl | assumption) ?_; first
      | refine k_assignD rfl rfl ?_
      | refine k_moveD rfl rfl ?_
      | refine k_call rfl (by kernel_rfl) rfl (by first | exact c1 | exact c2 | exact c3) ?_)
    | refine k_guardU rfl rfl rfl ?_
    | refine k_guardNT rfl rfl (by first | rfl | assumption) rfl ?_
    | refine k_guardNF rfl rfl (by first | rfl | assumption) rfl ?_
    | refine k_guardT rfl rfl rfl (fun h => ?_) (fun h => ?_)
    | refine k_guardF rfl rfl rfl (fun h => ?_) (fun h => ?_)
    | refine run_block ?_
    | refine run_blkEnd ?_
    | refine run_skip ?_
    | refine run_exit rfl ?_
    | refine run_retOk (resOk_tmp rfl rfl ?_)
    | refine run_retOk (resOk_tmp2 rfl rfl rfl ?_ ?_)
    | refine run_retOk (resOk_cell rfl rfl rfl (by first | rfl | (simp only [cellsD]; rfl)) ?_)
    | refine run_retOk (resOk_cellTmp rfl rfl rfl (by first | rfl | (simp only [cellsD]; rfl)) rfl ?_ ?_)
    | (first
      | refine k_assignD rfl rfl ?_
      | refine k_moveD rfl rfl ?_
      | refine k_call rfl (by kernel_rfl) rfl (by first | exact c1 | exact c2 | exact c3) ?_)
    | refine run_drawC (by kernel_rfl) ?_
    | refine c_nil (And.intro (by kernel_rfl) ?_)
    | refine c_pick (d_assignD rfl rfl) ?_
    | refine c_pick (d_moveD rfl rfl) ?_
    | refine c_pick (d_call rfl (by kernel_rfl) rfl (by first | exact c1 | exact c2 | exact c3)) ?_
    | refine c_passU rfl rfl ?_
    | refine c_passT rfl (by first | rfl | assumption) rfl ?_
    | refine c_passF rfl (by first | rfl | assumption) rfl ?_
    | refine c_pickY rfl (by first | rfl | assumption) (d_assignD rfl rfl) ?_
    | refine c_pickY rfl (by first | rfl | assumption) (d_moveD rfl rfl) ?_
    | refine c_pickY rfl (by first | rfl | assumption) (d_call rfl (by kernel_rfl) rfl (by first | exact c1 | exact c2 | exact c3)) ?_
    | refine c_pickD rfl (by assumption) (d_assignD rfl rfl) ?_
    | refine c_pickD rfl (by assumption) (d_moveD rfl rfl) ?_
    | refine c_pickD rfl (by assumption) (d_call rfl (by kernel_rfl) rfl (by first | exact c1 | exact c2 | exact c3)) ?_
    | refine c_splitT rfl rfl (fun h => ?_) (fun h => ?_)
    | refine c_splitF rfl rfl (fun h => ?_) (fun h => ?_)
    | fail)
  all_goals exact PLe.refl _
theorem cleanL_app : ∀ (a b : List GV), cleanL (a ++ b) = cleanL a ++ cleanL b
  | [], b => by simp [cleanL]
  | x :: r, b => by simp [cleanL, cleanL_app r b]
theorem cmpP_self {x : GV} (h : OG x) : cmpP x x = 0 := by
  have := swap_P x x
  omega
theorem cmpPl_begin : ∀ (p : List GV) (x y : GV) (a b : List GV), (∀ z ∈ p, cmpP z z = 0) → cmpP x y ≠ 0 → cmpPl (p ++ x :: a) (p ++ y :: b) = cmpP x y
  | [], x, y, a, b, _, h => by rw [List.nil_append, List.nil_append, cmpPl_cons, lx_pos h]
  | z :: p, x, y, a, b, hp, h => by
    rw [List.cons_append, List.cons_append, cmpPl_cons, lx_zero (hp z (by simp))]
    exact cmpPl_begin p x y a b (fun u hu => hp u (by simp [hu])) h
theorem OGs_clean {l : List GV} (h : Fits (.sl 6 88 (pdVs l))) (ho : ordL l = true) : ∀ y ∈ cleanL l, OG y := by
  intro y hy
  have hj := JOks_plain h
  obtain ⟨i, hi⟩ := List.getElem?_of_mem hy
  rw [cleanL_at] at hi
  cases hl : l[i]? with
  | none => rw [hl] at hi; cases hi
  | some z =>
    rw [hl] at hi
    have hi : cleanV z = y := Option.some.inj hi
    have hz := List.mem_of_getElem? hl
    rw [← hi, ← un_plain]
    refine OG_un _ ?_ (ord_plain z (ordL_iff.1 ho z hz))
    clear hl hi hy h ho
    induction l with
    | nil => cases hz
    | cons u r ih =>
      simp only [plainJs, JOks] at hj
      rcases List.mem_cons.1 hz with rfl | hz
      · exact hj.1
      · exact ih hj.2 hz
/-- A function's early way out: the law is true of what does not pass. -/
theorem cleanV_list (l : List GV) (n : Int) (f : Nat) (s : ByteArray) (ks : List ByteArray) : cleanV (.mk 5 n f s ks l) = .mk 5 0 0 ByteArray.empty [] (cleanL l) := by unfold cleanV; rfl
theorem cmpP_lists (a b : List GV) : cmpP (.mk 5 0 0 ByteArray.empty [] a) (.mk 5 0 0 ByteArray.empty [] b) = cmpPl a b := by
  rw [cmpP_lx, rank_mk, rank_mk, lx_zero (cmpI_self _)]
  rfl
set_option maxHeartbeats 8000000 in
theorem lawFI_p (be : List GV) (x y : GV) (a b : List GV) : PCall Try.prog 8 [.sl 6 88 (pdVs be), qV x, qV y, .sl 6 88 (pdVs a), .sl 6 88 (pdVs b)] (.val (.bool true)) := by
  refine pcall_fits fun hf => ?_
  have f1 := hf (.sl 6 88 (pdVs be)) (by simp)
  have f2 := hf (qV x) (by simp)
  have f3 := hf (qV y) (by simp)
  clear hf
  obtain ⟨b1, c1⟩ := fits5_p x
  obtain ⟨b2, c2⟩ := fits5_p y
  have n1 := pdVs_len be
  have n2 := pdVs_len a
  have n3 := pdVs_len b
  by_cases h1 : 2147483647 < be.length
  · have g1 : decide ((2147483647 : Int) < (((pdVs be).length : Nat) : Int)) = true := decide_eq_true (by omega)
    refine pcall_of_run Try.func8 rfl Try.ntmps8 rfl (fun X => ?_)
    repeat' (first
    | refine run_seq ?_
    | (refine k_pick rfl ?_; first
      | refine k_assignD rfl rfl ?_
      | refine k_moveD rfl rfl ?_
      | refine k_loadW rfl rfl rfl (by first | rfl | (simp only [cellsD]; rfl)) ?_
      | refine k_loadBD rfl rfl rfl (by first | rfl | (simp only [cellsD]; rfl)) ?_
      | refine k_bin2B rfl rfl rfl rfl ?_
      | refine k_pickT rfl rfl (by first | rfl | assumption) rfl ?_
      | refine k_pickF rfl rfl (by first | rfl | assumption) rfl ?_
      | refine k_boxW rfl rfl rfl (by first | rfl | (simp only [cellsD]; rfl)) ?_
      | refine k_call rfl (by kernel_rfl) rfl (by first | exact c1 | exact c2) ?_
      | refine k_lenD rfl rfl ?_
      | refine k_not rfl rfl ?_)
    | refine run_opsEnd ?_
    | refine run_region ?_
    | refine run_condT rfl (by first | rfl | assumption) ?_
    | refine run_condF rfl (by first | rfl | assumption) ?_
    | refine run_cond rfl (fun h => ?_) (fun h => ?_)
    | (refine k_guardY rfl rfl (by first | rfl | assumption) ?_; first
      | refine k_assignD rfl rfl ?_
      | refine k_moveD rfl rfl ?_
      | refine k_loadW rfl rfl rfl (by first | rfl | (simp only [cellsD]; rfl)) ?_
      | refine k_loadBD rfl rfl rfl (by first | rfl | (simp only [cellsD]; rfl)) ?_
      | refine k_bin2B rfl rfl rfl rfl ?_
      | refine k_pickT rfl rfl (by first | rfl | assumption) rfl ?_
      | refine k_pickF rfl rfl (by first | rfl | assumption) rfl ?_
      | refine k_boxW rfl rfl rfl (by first | rfl | (simp only [cellsD]; rfl)) ?_
      | refine k_call rfl (by kernel_rfl) rfl (by first | exact c1 | exact c2) ?_
      | refine k_lenD rfl rfl ?_
      | refine k_not rfl rfl ?_)
    | refine k_guardU rfl rfl rfl ?_
    | refine k_guardNT rfl rfl (by first | rfl | assumption) rfl ?_
    | refine k_guardNF rfl rfl (by first | rfl | assumption) rfl ?_
    | refine k_guardT rfl rfl rfl (fun h => ?_) (fun h => ?_)
    | refine k_guardF rfl rfl rfl (fun h => ?_) (fun h => ?_)
    | refine run_block ?_
    | refine run_blkEnd ?_
    | refine run_skip ?_
    | refine run_exit rfl ?_
    | refine run_retOk (resOk_tmp rfl rfl ?_)
    | refine run_retOk (resOk_tmp2 rfl rfl rfl ?_ ?_)
    | refine run_retOk (resOk_cell rfl rfl rfl (by first | rfl | (simp only [cellsD]; rfl)) ?_)
    | refine run_retOk (resOk_cellTmp rfl rfl rfl (by first | rfl | (simp only [cellsD]; rfl)) rfl ?_ ?_)
    | (first
      | refine k_assignD rfl rfl ?_
      | refine k_moveD rfl rfl ?_
      | refine k_loadW rfl rfl rfl (by first | rfl | (simp only [cellsD]; rfl)) ?_
      | refine k_loadBD rfl rfl rfl (by first | rfl | (simp only [cellsD]; rfl)) ?_
      | refine k_bin2B rfl rfl rfl rfl ?_
      | refine k_pickT rfl rfl (by first | rfl | assumption) rfl ?_
      | refine k_pickF rfl rfl (by first | rfl | assumption) rfl ?_
      | refine k_boxW rfl rfl rfl (by first | rfl | (simp only [cellsD]; rfl)) ?_
      | refine k_call rfl (by kernel_rfl) rfl (by first | exact c1 | exact c2) ?_
      | refine k_lenD rfl rfl ?_
      | refine k_not rfl rfl ?_)
    | refine run_drawC (by kernel_rfl) ?_
    | refine c_nil (And.intro (by kernel_rfl) ?_)
    | refine c_pick (d_assignD rfl rfl) ?_
    | refine c_pick (d_moveD rfl rfl) ?_
    | refine c_pick (d_loadW rfl rfl rfl (by first | rfl | (simp only [cellsD]; rfl))) ?_
    | refine c_pick (d_loadBD rfl rfl rfl (by first | rfl | (simp only [cellsD]; rfl))) ?_
    | refine c_pick (d_bin2B rfl rfl rfl rfl) ?_
    | refine c_pick (d_pickT rfl rfl (by first | rfl | assumption) rfl) ?_
    | refine c_pick (d_pickF rfl rfl (by first | rfl | assumption) rfl) ?_
    | refine c_pick (d_boxW rfl rfl rfl (by first | rfl | (simp only [cellsD]; rfl))) ?_
    | refine c_pick (d_call rfl (by kernel_rfl) rfl (by first | exact c1 | exact c2)) ?_
    | refine c_pick (d_lenD rfl rfl) ?_
    | refine c_pick (d_not rfl rfl) ?_
    | refine c_passU rfl rfl ?_
    | refine c_passT rfl (by first | rfl | assumption) rfl ?_
    | refine c_passF rfl (by first | rfl | assumption) rfl ?_
    | refine c_pickY rfl (by first | rfl | assumption) (d_assignD rfl rfl) ?_
    | refine c_pickY rfl (by first | rfl | assumption) (d_moveD rfl rfl) ?_
    | refine c_pickY rfl (by first | rfl | assumption) (d_loadW rfl rfl rfl (by first | rfl | (simp only [cellsD]; rfl))) ?_
    | refine c_pickY rfl (by first | rfl | assumption) (d_loadBD rfl rfl rfl (by first | rfl | (simp only [cellsD]; rfl))) ?_
    | refine c_pickY rfl (by first | rfl | assumption) (d_bin2B rfl rfl rfl rfl) ?_
    | refine c_pickY rfl (by first | rfl | assumption) (d_pickT rfl rfl (by first | rfl | assumption) rfl) ?_
    | refine c_pickY rfl (by first | rfl | assumption) (d_pickF rfl rfl (by first | rfl | assumption) rfl) ?_
    | refine c_pickY rfl (by first | rfl | assumption) (d_boxW rfl rfl rfl (by first | rfl | (simp only [cellsD]; rfl))) ?_
    | refine c_pickY rfl (by first | rfl | assumption) (d_call rfl (by kernel_rfl) rfl (by first | exact c1 | exact c2)) ?_
    | refine c_pickY rfl (by first | rfl | assumption) (d_lenD rfl rfl) ?_
    | refine c_pickY rfl (by first | rfl | assumption) (d_not rfl rfl) ?_
    | refine c_pickD rfl (by assumption) (d_assignD rfl rfl) ?_
    | refine c_pickD rfl (by assumption) (d_moveD rfl rfl) ?_
    | refine c_pickD rfl (by assumption) (d_loadW rfl rfl rfl (by first | rfl | (simp only [cellsD]; rfl))) ?_
    | refine c_pickD rfl (by assumption) (d_loadBD rfl rfl rfl (by first | rfl | (simp only [cellsD]; rfl))) ?_
    | refine c_pickD rfl (by assumption) (d_bin2B rfl rfl rfl rfl) ?_
    | refine c_pickD rfl (by assumption) (d_pickT rfl rfl (by first | rfl | assumption) rfl) ?_
    | refine c_pickD rfl (by assumption) (d_pickF rfl rfl (by first | rfl | assumption) rfl) ?_
    | refine c_pickD rfl (by assumption) (d_boxW rfl rfl rfl (by first | rfl | (simp only [cellsD]; rfl))) ?_
    | refine c_pickD rfl (by assumption) (d_call rfl (by kernel_rfl) rfl (by first | exact c1 | exact c2)) ?_
    | refine c_pickD rfl (by assumption) (d_lenD rfl rfl) ?_
    | refine c_pickD rfl (by assumption) (d_not rfl rfl) ?_
    | refine c_splitT rfl rfl (fun h => ?_) (fun h => ?_)
    | refine c_splitF rfl rfl (fun h => ?_) (fun h => ?_)
    | fail)
    all_goals exact PLe.refl _
  have g1 : decide ((2147483647 : Int) < (((pdVs be).length : Nat) : Int)) = false := decide_eq_false (by omega)
  cases b1 with
  | false =>
    refine pcall_of_run Try.func8 rfl Try.ntmps8 rfl (fun X => ?_)
    repeat' (first
    | refine run_seq ?_
    | (refine k_pick rfl ?_; first
      | refine k_assignD rfl rfl ?_
      | refine k_moveD rfl rfl ?_
      | refine k_loadW rfl rfl rfl (by first | rfl | (simp only [cellsD]; rfl)) ?_
      | refine k_loadBD rfl rfl rfl (by first | rfl | (simp only [cellsD]; rfl)) ?_
      | refine k_bin2B rfl rfl rfl rfl ?_
      | refine k_pickT rfl rfl (by first | rfl | assumption) rfl ?_
      | refine k_pickF rfl rfl (by first | rfl | assumption) rfl ?_
      | refine k_boxW rfl rfl rfl (by first | rfl | (simp only [cellsD]; rfl)) ?_
      | refine k_call rfl (by kernel_rfl) rfl (by first | exact c1 | exact c2) ?_
      | refine k_lenD rfl rfl ?_
      | refine k_not rfl rfl ?_)
    | refine run_opsEnd ?_
    | refine run_region ?_
    | refine run_condT rfl (by first | rfl | assumption) ?_
    | refine run_condF rfl (by first | rfl | assumption) ?_
    | refine run_cond rfl (fun h => ?_) (fun h => ?_)
    | (refine k_guardY rfl rfl (by first | rfl | assumption) ?_; first
      | refine k_assignD rfl rfl ?_
      | refine k_moveD rfl rfl ?_
      | refine k_loadW rfl rfl rfl (by first | rfl | (simp only [cellsD]; rfl)) ?_
      | refine k_loadBD rfl rfl rfl (by first | rfl | (simp only [cellsD]; rfl)) ?_
      | refine k_bin2B rfl rfl rfl rfl ?_
      | refine k_pickT rfl rfl (by first | rfl | assumption) rfl ?_
      | refine k_pickF rfl rfl (by first | rfl | assumption) rfl ?_
      | refine k_boxW rfl rfl rfl (by first | rfl | (simp only [cellsD]; rfl)) ?_
      | refine k_call rfl (by kernel_rfl) rfl (by first | exact c1 | exact c2) ?_
      | refine k_lenD rfl rfl ?_
      | refine k_not rfl rfl ?_)
    | refine k_guardU rfl rfl rfl ?_
    | refine k_guardNT rfl rfl (by first | rfl | assumption) rfl ?_
    | refine k_guardNF rfl rfl (by first | rfl | assumption) rfl ?_
    | refine k_guardT rfl rfl rfl (fun h => ?_) (fun h => ?_)
    | refine k_guardF rfl rfl rfl (fun h => ?_) (fun h => ?_)
    | refine run_block ?_
    | refine run_blkEnd ?_
    | refine run_skip ?_
    | refine run_exit rfl ?_
    | refine run_retOk (resOk_tmp rfl rfl ?_)
    | refine run_retOk (resOk_tmp2 rfl rfl rfl ?_ ?_)
    | refine run_retOk (resOk_cell rfl rfl rfl (by first | rfl | (simp only [cellsD]; rfl)) ?_)
    | refine run_retOk (resOk_cellTmp rfl rfl rfl (by first | rfl | (simp only [cellsD]; rfl)) rfl ?_ ?_)
    | (first
      | refine k_assignD rfl rfl ?_
      | refine k_moveD rfl rfl ?_
      | refine k_loadW rfl rfl rfl (by first | rfl | (simp only [cellsD]; rfl)) ?_
      | refine k_loadBD rfl rfl rfl (by first | rfl | (simp only [cellsD]; rfl)) ?_
      | refine k_bin2B rfl rfl rfl rfl ?_
      | refine k_pickT rfl rfl (by first | rfl | assumption) rfl ?_
      | refine k_pickF rfl rfl (by first | rfl | assumption) rfl ?_
      | refine k_boxW rfl rfl rfl (by first | rfl | (simp only [cellsD]; rfl)) ?_
      | refine k_call rfl (by kernel_rfl) rfl (by first | exact c1 | exact c2) ?_
      | refine k_lenD rfl rfl ?_
      | refine k_not rfl rfl ?_)
    | refine run_drawC (by kernel_rfl) ?_
    | refine c_nil (And.intro (by kernel_rfl) ?_)
    | refine c_pick (d_assignD rfl rfl) ?_
    | refine c_pick (d_moveD rfl rfl) ?_
    | refine c_pick (d_loadW rfl rfl rfl (by first | rfl | (simp only [cellsD]; rfl))) ?_
    | refine c_pick (d_loadBD rfl rfl rfl (by first | rfl | (simp only [cellsD]; rfl))) ?_
    | refine c_pick (d_bin2B rfl rfl rfl rfl) ?_
    | refine c_pick (d_pickT rfl rfl (by first | rfl | assumption) rfl) ?_
    | refine c_pick (d_pickF rfl rfl (by first | rfl | assumption) rfl) ?_
    | refine c_pick (d_boxW rfl rfl rfl (by first | rfl | (simp only [cellsD]; rfl))) ?_
    | refine c_pick (d_call rfl (by kernel_rfl) rfl (by first | exact c1 | exact c2)) ?_
    | refine c_pick (d_lenD rfl rfl) ?_
    | refine c_pick (d_not rfl rfl) ?_
    | refine c_passU rfl rfl ?_
    | refine c_passT rfl (by first | rfl | assumption) rfl ?_
    | refine c_passF rfl (by first | rfl | assumption) rfl ?_
    | refine c_pickY rfl (by first | rfl | assumption) (d_assignD rfl rfl) ?_
    | refine c_pickY rfl (by first | rfl | assumption) (d_moveD rfl rfl) ?_
    | refine c_pickY rfl (by first | rfl | assumption) (d_loadW rfl rfl rfl (by first | rfl | (simp only [cellsD]; rfl))) ?_
    | refine c_pickY rfl (by first | rfl | assumption) (d_loadBD rfl rfl rfl (by first | rfl | (simp only [cellsD]; rfl))) ?_
    | refine c_pickY rfl (by first | rfl | assumption) (d_bin2B rfl rfl rfl rfl) ?_
    | refine c_pickY rfl (by first | rfl | assumption) (d_pickT rfl rfl (by first | rfl | assumption) rfl) ?_
    | refine c_pickY rfl (by first | rfl | assumption) (d_pickF rfl rfl (by first | rfl | assumption) rfl) ?_
    | refine c_pickY rfl (by first | rfl | assumption) (d_boxW rfl rfl rfl (by first | rfl | (simp only [cellsD]; rfl))) ?_
    | refine c_pickY rfl (by first | rfl | assumption) (d_call rfl (by kernel_rfl) rfl (by first | exact c1 | exact c2)) ?_
    | refine c_pickY rfl (by first | rfl | assumption) (d_lenD rfl rfl) ?_
    | refine c_pickY rfl (by first | rfl | assumption) (d_not rfl rfl) ?_
    | refine c_pickD rfl (by assumption) (d_assignD rfl rfl) ?_
    | refine c_pickD rfl (by assumption) (d_moveD rfl rfl) ?_
    | refine c_pickD rfl (by assumption) (d_loadW rfl rfl rfl (by first | rfl | (simp only [cellsD]; rfl))) ?_
    | refine c_pickD rfl (by assumption) (d_loadBD rfl rfl rfl (by first | rfl | (simp only [cellsD]; rfl))) ?_
    | refine c_pickD rfl (by assumption) (d_bin2B rfl rfl rfl rfl) ?_
    | refine c_pickD rfl (by assumption) (d_pickT rfl rfl (by first | rfl | assumption) rfl) ?_
    | refine c_pickD rfl (by assumption) (d_pickF rfl rfl (by first | rfl | assumption) rfl) ?_
    | refine c_pickD rfl (by assumption) (d_boxW rfl rfl rfl (by first | rfl | (simp only [cellsD]; rfl))) ?_
    | refine c_pickD rfl (by assumption) (d_call rfl (by kernel_rfl) rfl (by first | exact c1 | exact c2)) ?_
    | refine c_pickD rfl (by assumption) (d_lenD rfl rfl) ?_
    | refine c_pickD rfl (by assumption) (d_not rfl rfl) ?_
    | refine c_splitT rfl rfl (fun h => ?_) (fun h => ?_)
    | refine c_splitF rfl rfl (fun h => ?_) (fun h => ?_)
    | fail)
    all_goals exact PLe.refl _
  | true =>
  cases b2 with
  | false =>
    refine pcall_of_run Try.func8 rfl Try.ntmps8 rfl (fun X => ?_)
    repeat' (first
    | refine run_seq ?_
    | (refine k_pick rfl ?_; first
      | refine k_assignD rfl rfl ?_
      | refine k_moveD rfl rfl ?_
      | refine k_loadW rfl rfl rfl (by first | rfl | (simp only [cellsD]; rfl)) ?_
      | refine k_loadBD rfl rfl rfl (by first | rfl | (simp only [cellsD]; rfl)) ?_
      | refine k_bin2B rfl rfl rfl rfl ?_
      | refine k_pickT rfl rfl (by first | rfl | assumption) rfl ?_
      | refine k_pickF rfl rfl (by first | rfl | assumption) rfl ?_
      | refine k_boxW rfl rfl rfl (by first | rfl | (simp only [cellsD]; rfl)) ?_
      | refine k_call rfl (by kernel_rfl) rfl (by first | exact c1 | exact c2) ?_
      | refine k_lenD rfl rfl ?_
      | refine k_not rfl rfl ?_)
    | refine run_opsEnd ?_
    | refine run_region ?_
    | refine run_condT rfl (by first | rfl | assumption) ?_
    | refine run_condF rfl (by first | rfl | assumption) ?_
    | refine run_cond rfl (fun h => ?_) (fun h => ?_)
    | (refine k_guardY rfl rfl (by first | rfl | assumption) ?_; first
      | refine k_assignD rfl rfl ?_
      | refine k_moveD rfl rfl ?_
      | refine k_loadW rfl rfl rfl (by first | rfl | (simp only [cellsD]; rfl)) ?_
      | refine k_loadBD rfl rfl rfl (by first | rfl | (simp only [cellsD]; rfl)) ?_
      | refine k_bin2B rfl rfl rfl rfl ?_
      | refine k_pickT rfl rfl (by first | rfl | assumption) rfl ?_
      | refine k_pickF rfl rfl (by first | rfl | assumption) rfl ?_
      | refine k_boxW rfl rfl rfl (by first | rfl | (simp only [cellsD]; rfl)) ?_
      | refine k_call rfl (by kernel_rfl) rfl (by first | exact c1 | exact c2) ?_
      | refine k_lenD rfl rfl ?_
      | refine k_not rfl rfl ?_)
    | refine k_guardU rfl rfl rfl ?_
    | refine k_guardNT rfl rfl (by first | rfl | assumption) rfl ?_
    | refine k_guardNF rfl rfl (by first | rfl | assumption) rfl ?_
    | refine k_guardT rfl rfl rfl (fun h => ?_) (fun h => ?_)
    | refine k_guardF rfl rfl rfl (fun h => ?_) (fun h => ?_)
    | refine run_block ?_
    | refine run_blkEnd ?_
    | refine run_skip ?_
    | refine run_exit rfl ?_
    | refine run_retOk (resOk_tmp rfl rfl ?_)
    | refine run_retOk (resOk_tmp2 rfl rfl rfl ?_ ?_)
    | refine run_retOk (resOk_cell rfl rfl rfl (by first | rfl | (simp only [cellsD]; rfl)) ?_)
    | refine run_retOk (resOk_cellTmp rfl rfl rfl (by first | rfl | (simp only [cellsD]; rfl)) rfl ?_ ?_)
    | (first
      | refine k_assignD rfl rfl ?_
      | refine k_moveD rfl rfl ?_
      | refine k_loadW rfl rfl rfl (by first | rfl | (simp only [cellsD]; rfl)) ?_
      | refine k_loadBD rfl rfl rfl (by first | rfl | (simp only [cellsD]; rfl)) ?_
      | refine k_bin2B rfl rfl rfl rfl ?_
      | refine k_pickT rfl rfl (by first | rfl | assumption) rfl ?_
      | refine k_pickF rfl rfl (by first | rfl | assumption) rfl ?_
      | refine k_boxW rfl rfl rfl (by first | rfl | (simp only [cellsD]; rfl)) ?_
      | refine k_call rfl (by kernel_rfl) rfl (by first | exact c1 | exact c2) ?_
      | refine k_lenD rfl rfl ?_
      | refine k_not rfl rfl ?_)
    | refine run_drawC (by kernel_rfl) ?_
    | refine c_nil (And.intro (by kernel_rfl) ?_)
    | refine c_pick (d_assignD rfl rfl) ?_
    | refine c_pick (d_moveD rfl rfl) ?_
    | refine c_pick (d_loadW rfl rfl rfl (by first | rfl | (simp only [cellsD]; rfl))) ?_
    | refine c_pick (d_loadBD rfl rfl rfl (by first | rfl | (simp only [cellsD]; rfl))) ?_
    | refine c_pick (d_bin2B rfl rfl rfl rfl) ?_
    | refine c_pick (d_pickT rfl rfl (by first | rfl | assumption) rfl) ?_
    | refine c_pick (d_pickF rfl rfl (by first | rfl | assumption) rfl) ?_
    | refine c_pick (d_boxW rfl rfl rfl (by first | rfl | (simp only [cellsD]; rfl))) ?_
    | refine c_pick (d_call rfl (by kernel_rfl) rfl (by first | exact c1 | exact c2)) ?_
    | refine c_pick (d_lenD rfl rfl) ?_
    | refine c_pick (d_not rfl rfl) ?_
    | refine c_passU rfl rfl ?_
    | refine c_passT rfl (by first | rfl | assumption) rfl ?_
    | refine c_passF rfl (by first | rfl | assumption) rfl ?_
    | refine c_pickY rfl (by first | rfl | assumption) (d_assignD rfl rfl) ?_
    | refine c_pickY rfl (by first | rfl | assumption) (d_moveD rfl rfl) ?_
    | refine c_pickY rfl (by first | rfl | assumption) (d_loadW rfl rfl rfl (by first | rfl | (simp only [cellsD]; rfl))) ?_
    | refine c_pickY rfl (by first | rfl | assumption) (d_loadBD rfl rfl rfl (by first | rfl | (simp only [cellsD]; rfl))) ?_
    | refine c_pickY rfl (by first | rfl | assumption) (d_bin2B rfl rfl rfl rfl) ?_
    | refine c_pickY rfl (by first | rfl | assumption) (d_pickT rfl rfl (by first | rfl | assumption) rfl) ?_
    | refine c_pickY rfl (by first | rfl | assumption) (d_pickF rfl rfl (by first | rfl | assumption) rfl) ?_
    | refine c_pickY rfl (by first | rfl | assumption) (d_boxW rfl rfl rfl (by first | rfl | (simp only [cellsD]; rfl))) ?_
    | refine c_pickY rfl (by first | rfl | assumption) (d_call rfl (by kernel_rfl) rfl (by first | exact c1 | exact c2)) ?_
    | refine c_pickY rfl (by first | rfl | assumption) (d_lenD rfl rfl) ?_
    | refine c_pickY rfl (by first | rfl | assumption) (d_not rfl rfl) ?_
    | refine c_pickD rfl (by assumption) (d_assignD rfl rfl) ?_
    | refine c_pickD rfl (by assumption) (d_moveD rfl rfl) ?_
    | refine c_pickD rfl (by assumption) (d_loadW rfl rfl rfl (by first | rfl | (simp only [cellsD]; rfl))) ?_
    | refine c_pickD rfl (by assumption) (d_loadBD rfl rfl rfl (by first | rfl | (simp only [cellsD]; rfl))) ?_
    | refine c_pickD rfl (by assumption) (d_bin2B rfl rfl rfl rfl) ?_
    | refine c_pickD rfl (by assumption) (d_pickT rfl rfl (by first | rfl | assumption) rfl) ?_
    | refine c_pickD rfl (by assumption) (d_pickF rfl rfl (by first | rfl | assumption) rfl) ?_
    | refine c_pickD rfl (by assumption) (d_boxW rfl rfl rfl (by first | rfl | (simp only [cellsD]; rfl))) ?_
    | refine c_pickD rfl (by assumption) (d_call rfl (by kernel_rfl) rfl (by first | exact c1 | exact c2)) ?_
    | refine c_pickD rfl (by assumption) (d_lenD rfl rfl) ?_
    | refine c_pickD rfl (by assumption) (d_not rfl rfl) ?_
    | refine c_splitT rfl rfl (fun h => ?_) (fun h => ?_)
    | refine c_splitF rfl rfl (fun h => ?_) (fun h => ?_)
    | fail)
    all_goals exact PLe.refl _
  | true =>
  by_cases h2 : 2147483647 < a.length
  · have g2 : decide ((2147483647 : Int) < (((pdVs a).length : Nat) : Int)) = true := decide_eq_true (by omega)
    refine pcall_of_run Try.func8 rfl Try.ntmps8 rfl (fun X => ?_)
    repeat' (first
    | refine run_seq ?_
    | (refine k_pick rfl ?_; first
      | refine k_assignD rfl rfl ?_
      | refine k_moveD rfl rfl ?_
      | refine k_loadW rfl rfl rfl (by first | rfl | (simp only [cellsD]; rfl)) ?_
      | refine k_loadBD rfl rfl rfl (by first | rfl | (simp only [cellsD]; rfl)) ?_
      | refine k_bin2B rfl rfl rfl rfl ?_
      | refine k_pickT rfl rfl (by first | rfl | assumption) rfl ?_
      | refine k_pickF rfl rfl (by first | rfl | assumption) rfl ?_
      | refine k_boxW rfl rfl rfl (by first | rfl | (simp only [cellsD]; rfl)) ?_
      | refine k_call rfl (by kernel_rfl) rfl (by first | exact c1 | exact c2) ?_
      | refine k_lenD rfl rfl ?_
      | refine k_not rfl rfl ?_)
    | refine run_opsEnd ?_
    | refine run_region ?_
    | refine run_condT rfl (by first | rfl | assumption) ?_
    | refine run_condF rfl (by first | rfl | assumption) ?_
    | refine run_cond rfl (fun h => ?_) (fun h => ?_)
    | (refine k_guardY rfl rfl (by first | rfl | assumption) ?_; first
      | refine k_assignD rfl rfl ?_
      | refine k_moveD rfl rfl ?_
      | refine k_loadW rfl rfl rfl (by first | rfl | (simp only [cellsD]; rfl)) ?_
      | refine k_loadBD rfl rfl rfl (by first | rfl | (simp only [cellsD]; rfl)) ?_
      | refine k_bin2B rfl rfl rfl rfl ?_
      | refine k_pickT rfl rfl (by first | rfl | assumption) rfl ?_
      | refine k_pickF rfl rfl (by first | rfl | assumption) rfl ?_
      | refine k_boxW rfl rfl rfl (by first | rfl | (simp only [cellsD]; rfl)) ?_
      | refine k_call rfl (by kernel_rfl) rfl (by first | exact c1 | exact c2) ?_
      | refine k_lenD rfl rfl ?_
      | refine k_not rfl rfl ?_)
    | refine k_guardU rfl rfl rfl ?_
    | refine k_guardNT rfl rfl (by first | rfl | assumption) rfl ?_
    | refine k_guardNF rfl rfl (by first | rfl | assumption) rfl ?_
    | refine k_guardT rfl rfl rfl (fun h => ?_) (fun h => ?_)
    | refine k_guardF rfl rfl rfl (fun h => ?_) (fun h => ?_)
    | refine run_block ?_
    | refine run_blkEnd ?_
    | refine run_skip ?_
    | refine run_exit rfl ?_
    | refine run_retOk (resOk_tmp rfl rfl ?_)
    | refine run_retOk (resOk_tmp2 rfl rfl rfl ?_ ?_)
    | refine run_retOk (resOk_cell rfl rfl rfl (by first | rfl | (simp only [cellsD]; rfl)) ?_)
    | refine run_retOk (resOk_cellTmp rfl rfl rfl (by first | rfl | (simp only [cellsD]; rfl)) rfl ?_ ?_)
    | (first
      | refine k_assignD rfl rfl ?_
      | refine k_moveD rfl rfl ?_
      | refine k_loadW rfl rfl rfl (by first | rfl | (simp only [cellsD]; rfl)) ?_
      | refine k_loadBD rfl rfl rfl (by first | rfl | (simp only [cellsD]; rfl)) ?_
      | refine k_bin2B rfl rfl rfl rfl ?_
      | refine k_pickT rfl rfl (by first | rfl | assumption) rfl ?_
      | refine k_pickF rfl rfl (by first | rfl | assumption) rfl ?_
      | refine k_boxW rfl rfl rfl (by first | rfl | (simp only [cellsD]; rfl)) ?_
      | refine k_call rfl (by kernel_rfl) rfl (by first | exact c1 | exact c2) ?_
      | refine k_lenD rfl rfl ?_
      | refine k_not rfl rfl ?_)
    | refine run_drawC (by kernel_rfl) ?_
    | refine c_nil (And.intro (by kernel_rfl) ?_)
    | refine c_pick (d_assignD rfl rfl) ?_
    | refine c_pick (d_moveD rfl rfl) ?_
    | refine c_pick (d_loadW rfl rfl rfl (by first | rfl | (simp only [cellsD]; rfl))) ?_
    | refine c_pick (d_loadBD rfl rfl rfl (by first | rfl | (simp only [cellsD]; rfl))) ?_
    | refine c_pick (d_bin2B rfl rfl rfl rfl) ?_
    | refine c_pick (d_pickT rfl rfl (by first | rfl | assumption) rfl) ?_
    | refine c_pick (d_pickF rfl rfl (by first | rfl | assumption) rfl) ?_
    | refine c_pick (d_boxW rfl rfl rfl (by first | rfl | (simp only [cellsD]; rfl))) ?_
    | refine c_pick (d_call rfl (by kernel_rfl) rfl (by first | exact c1 | exact c2)) ?_
    | refine c_pick (d_lenD rfl rfl) ?_
    | refine c_pick (d_not rfl rfl) ?_
    | refine c_passU rfl rfl ?_
    | refine c_passT rfl (by first | rfl | assumption) rfl ?_
    | refine c_passF rfl (by first | rfl | assumption) rfl ?_
    | refine c_pickY rfl (by first | rfl | assumption) (d_assignD rfl rfl) ?_
    | refine c_pickY rfl (by first | rfl | assumption) (d_moveD rfl rfl) ?_
    | refine c_pickY rfl (by first | rfl | assumption) (d_loadW rfl rfl rfl (by first | rfl | (simp only [cellsD]; rfl))) ?_
    | refine c_pickY rfl (by first | rfl | assumption) (d_loadBD rfl rfl rfl (by first | rfl | (simp only [cellsD]; rfl))) ?_
    | refine c_pickY rfl (by first | rfl | assumption) (d_bin2B rfl rfl rfl rfl) ?_
    | refine c_pickY rfl (by first | rfl | assumption) (d_pickT rfl rfl (by first | rfl | assumption) rfl) ?_
    | refine c_pickY rfl (by first | rfl | assumption) (d_pickF rfl rfl (by first | rfl | assumption) rfl) ?_
    | refine c_pickY rfl (by first | rfl | assumption) (d_boxW rfl rfl rfl (by first | rfl | (simp only [cellsD]; rfl))) ?_
    | refine c_pickY rfl (by first | rfl | assumption) (d_call rfl (by kernel_rfl) rfl (by first | exact c1 | exact c2)) ?_
    | refine c_pickY rfl (by first | rfl | assumption) (d_lenD rfl rfl) ?_
    | refine c_pickY rfl (by first | rfl | assumption) (d_not rfl rfl) ?_
    | refine c_pickD rfl (by assumption) (d_assignD rfl rfl) ?_
    | refine c_pickD rfl (by assumption) (d_moveD rfl rfl) ?_
    | refine c_pickD rfl (by assumption) (d_loadW rfl rfl rfl (by first | rfl | (simp only [cellsD]; rfl))) ?_
    | refine c_pickD rfl (by assumption) (d_loadBD rfl rfl rfl (by first | rfl | (simp only [cellsD]; rfl))) ?_
    | refine c_pickD rfl (by assumption) (d_bin2B rfl rfl rfl rfl) ?_
    | refine c_pickD rfl (by assumption) (d_pickT rfl rfl (by first | rfl | assumption) rfl) ?_
    | refine c_pickD rfl (by assumption) (d_pickF rfl rfl (by first | rfl | assumption) rfl) ?_
    | refine c_pickD rfl (by assumption) (d_boxW rfl rfl rfl (by first | rfl | (simp only [cellsD]; rfl))) ?_
    | refine c_pickD rfl (by assumption) (d_call rfl (by kernel_rfl) rfl (by first | exact c1 | exact c2)) ?_
    | refine c_pickD rfl (by assumption) (d_lenD rfl rfl) ?_
    | refine c_pickD rfl (by assumption) (d_not rfl rfl) ?_
    | refine c_splitT rfl rfl (fun h => ?_) (fun h => ?_)
    | refine c_splitF rfl rfl (fun h => ?_) (fun h => ?_)
    | fail)
    all_goals exact PLe.refl _
  have g2 : decide ((2147483647 : Int) < (((pdVs a).length : Nat) : Int)) = false := decide_eq_false (by omega)
  by_cases h3 : 2147483647 < b.length
  · have g3 : decide ((2147483647 : Int) < (((pdVs b).length : Nat) : Int)) = true := decide_eq_true (by omega)
    refine pcall_of_run Try.func8 rfl Try.ntmps8 rfl (fun X => ?_)
    repeat' (first
    | refine run_seq ?_
    | (refine k_pick rfl ?_; first
      | refine k_assignD rfl rfl ?_
      | refine k_moveD rfl rfl ?_
      | refine k_loadW rfl rfl rfl (by first | rfl | (simp only [cellsD]; rfl)) ?_
      | refine k_loadBD rfl rfl rfl (by first | rfl | (simp only [cellsD]; rfl)) ?_
      | refine k_bin2B rfl rfl rfl rfl ?_
      | refine k_pickT rfl rfl (by first | rfl | assumption) rfl ?_
      | refine k_pickF rfl rfl (by first | rfl | assumption) rfl ?_
      | refine k_boxW rfl rfl rfl (by first | rfl | (simp only [cellsD]; rfl)) ?_
      | refine k_call rfl (by kernel_rfl) rfl (by first | exact c1 | exact c2) ?_
      | refine k_lenD rfl rfl ?_
      | refine k_not rfl rfl ?_)
    | refine run_opsEnd ?_
    | refine run_region ?_
    | refine run_condT rfl (by first | rfl | assumption) ?_
    | refine run_condF rfl (by first | rfl | assumption) ?_
    | refine run_cond rfl (fun h => ?_) (fun h => ?_)
    | (refine k_guardY rfl rfl (by first | rfl | assumption) ?_; first
      | refine k_assignD rfl rfl ?_
      | refine k_moveD rfl rfl ?_
      | refine k_loadW rfl rfl rfl (by first | rfl | (simp only [cellsD]; rfl)) ?_
      | refine k_loadBD rfl rfl rfl (by first | rfl | (simp only [cellsD]; rfl)) ?_
      | refine k_bin2B rfl rfl rfl rfl ?_
      | refine k_pickT rfl rfl (by first | rfl | assumption) rfl ?_
      | refine k_pickF rfl rfl (by first | rfl | assumption) rfl ?_
      | refine k_boxW rfl rfl rfl (by first | rfl | (simp only [cellsD]; rfl)) ?_
      | refine k_call rfl (by kernel_rfl) rfl (by first | exact c1 | exact c2) ?_
      | refine k_lenD rfl rfl ?_
      | refine k_not rfl rfl ?_)
    | refine k_guardU rfl rfl rfl ?_
    | refine k_guardNT rfl rfl (by first | rfl | assumption) rfl ?_
    | refine k_guardNF rfl rfl (by first | rfl | assumption) rfl ?_
    | refine k_guardT rfl rfl rfl (fun h => ?_) (fun h => ?_)
    | refine k_guardF rfl rfl rfl (fun h => ?_) (fun h => ?_)
    | refine run_block ?_
    | refine run_blkEnd ?_
    | refine run_skip ?_
    | refine run_exit rfl ?_
    | refine run_retOk (resOk_tmp rfl rfl ?_)
    | refine run_retOk (resOk_tmp2 rfl rfl rfl ?_ ?_)
    | refine run_retOk (resOk_cell rfl rfl rfl (by first | rfl | (simp only [cellsD]; rfl)) ?_)
    | refine run_retOk (resOk_cellTmp rfl rfl rfl (by first | rfl | (simp only [cellsD]; rfl)) rfl ?_ ?_)
    | (first
      | refine k_assignD rfl rfl ?_
      | refine k_moveD rfl rfl ?_
      | refine k_loadW rfl rfl rfl (by first | rfl | (simp only [cellsD]; rfl)) ?_
      | refine k_loadBD rfl rfl rfl (by first | rfl | (simp only [cellsD]; rfl)) ?_
      | refine k_bin2B rfl rfl rfl rfl ?_
      | refine k_pickT rfl rfl (by first | rfl | assumption) rfl ?_
      | refine k_pickF rfl rfl (by first | rfl | assumption) rfl ?_
      | refine k_boxW rfl rfl rfl (by first | rfl | (simp only [cellsD]; rfl)) ?_
      | refine k_call rfl (by kernel_rfl) rfl (by first | exact c1 | exact c2) ?_
      | refine k_lenD rfl rfl ?_
      | refine k_not rfl rfl ?_)
    | refine run_drawC (by kernel_rfl) ?_
    | refine c_nil (And.intro (by kernel_rfl) ?_)
    | refine c_pick (d_assignD rfl rfl) ?_
    | refine c_pick (d_moveD rfl rfl) ?_
    | refine c_pick (d_loadW rfl rfl rfl (by first | rfl | (simp only [cellsD]; rfl))) ?_
    | refine c_pick (d_loadBD rfl rfl rfl (by first | rfl | (simp only [cellsD]; rfl))) ?_
    | refine c_pick (d_bin2B rfl rfl rfl rfl) ?_
    | refine c_pick (d_pickT rfl rfl (by first | rfl | assumption) rfl) ?_
    | refine c_pick (d_pickF rfl rfl (by first | rfl | assumption) rfl) ?_
    | refine c_pick (d_boxW rfl rfl rfl (by first | rfl | (simp only [cellsD]; rfl))) ?_
    | refine c_pick (d_call rfl (by kernel_rfl) rfl (by first | exact c1 | exact c2)) ?_
    | refine c_pick (d_lenD rfl rfl) ?_
    | refine c_pick (d_not rfl rfl) ?_
    | refine c_passU rfl rfl ?_
    | refine c_passT rfl (by first | rfl | assumption) rfl ?_
    | refine c_passF rfl (by first | rfl | assumption) rfl ?_
    | refine c_pickY rfl (by first | rfl | assumption) (d_assignD rfl rfl) ?_
    | refine c_pickY rfl (by first | rfl | assumption) (d_moveD rfl rfl) ?_
    | refine c_pickY rfl (by first | rfl | assumption) (d_loadW rfl rfl rfl (by first | rfl | (simp only [cellsD]; rfl))) ?_
    | refine c_pickY rfl (by first | rfl | assumption) (d_loadBD rfl rfl rfl (by first | rfl | (simp only [cellsD]; rfl))) ?_
    | refine c_pickY rfl (by first | rfl | assumption) (d_bin2B rfl rfl rfl rfl) ?_
    | refine c_pickY rfl (by first | rfl | assumption) (d_pickT rfl rfl (by first | rfl | assumption) rfl) ?_
    | refine c_pickY rfl (by first | rfl | assumption) (d_pickF rfl rfl (by first | rfl | assumption) rfl) ?_
    | refine c_pickY rfl (by first | rfl | assumption) (d_boxW rfl rfl rfl (by first | rfl | (simp only [cellsD]; rfl))) ?_
    | refine c_pickY rfl (by first | rfl | assumption) (d_call rfl (by kernel_rfl) rfl (by first | exact c1 | exact c2)) ?_
    | refine c_pickY rfl (by first | rfl | assumption) (d_lenD rfl rfl) ?_
    | refine c_pickY rfl (by first | rfl | assumption) (d_not rfl rfl) ?_
    | refine c_pickD rfl (by assumption) (d_assignD rfl rfl) ?_
    | refine c_pickD rfl (by assumption) (d_moveD rfl rfl) ?_
    | refine c_pickD rfl (by assumption) (d_loadW rfl rfl rfl (by first | rfl | (simp only [cellsD]; rfl))) ?_
    | refine c_pickD rfl (by assumption) (d_loadBD rfl rfl rfl (by first | rfl | (simp only [cellsD]; rfl))) ?_
    | refine c_pickD rfl (by assumption) (d_bin2B rfl rfl rfl rfl) ?_
    | refine c_pickD rfl (by assumption) (d_pickT rfl rfl (by first | rfl | assumption) rfl) ?_
    | refine c_pickD rfl (by assumption) (d_pickF rfl rfl (by first | rfl | assumption) rfl) ?_
    | refine c_pickD rfl (by assumption) (d_boxW rfl rfl rfl (by first | rfl | (simp only [cellsD]; rfl))) ?_
    | refine c_pickD rfl (by assumption) (d_call rfl (by kernel_rfl) rfl (by first | exact c1 | exact c2)) ?_
    | refine c_pickD rfl (by assumption) (d_lenD rfl rfl) ?_
    | refine c_pickD rfl (by assumption) (d_not rfl rfl) ?_
    | refine c_splitT rfl rfl (fun h => ?_) (fun h => ?_)
    | refine c_splitF rfl rfl (fun h => ?_) (fun h => ?_)
    | fail)
    all_goals exact PLe.refl _
  have g3 : decide ((2147483647 : Int) < (((pdVs b).length : Nat) : Int)) = false := decide_eq_false (by omega)
  have c3 := ordVals_q be
  have c4 := ordV_p x
  have c5 := ordV_p y
  have c6 := eqSpec_p x y
  cases o1 : ordL be with
  | false =>
    rw [o1] at c3
    refine pcall_of_run Try.func8 rfl Try.ntmps8 rfl (fun X => ?_)
    repeat' (first
    | refine run_seq ?_
    | (refine k_pick rfl ?_; first
      | refine k_assignD rfl rfl ?_
      | refine k_moveD rfl rfl ?_
      | refine k_loadW rfl rfl rfl (by first | rfl | (simp only [cellsD]; rfl)) ?_
      | refine k_loadBD rfl rfl rfl (by first | rfl | (simp only [cellsD]; rfl)) ?_
      | refine k_bin2B rfl rfl rfl rfl ?_
      | refine k_pickT rfl rfl (by first | rfl | assumption) rfl ?_
      | refine k_pickF rfl rfl (by first | rfl | assumption) rfl ?_
      | refine k_boxW rfl rfl rfl (by first | rfl | (simp only [cellsD]; rfl)) ?_
      | refine k_call rfl (by kernel_rfl) rfl (by first | exact c1 | exact c2 | exact c3) ?_
      | refine k_lenD rfl rfl ?_
      | refine k_not rfl rfl ?_)
    | refine run_opsEnd ?_
    | refine run_region ?_
    | refine run_condT rfl (by first | rfl | assumption) ?_
    | refine run_condF rfl (by first | rfl | assumption) ?_
    | refine run_cond rfl (fun h => ?_) (fun h => ?_)
    | (refine k_guardY rfl rfl (by first | rfl | assumption) ?_; first
      | refine k_assignD rfl rfl ?_
      | refine k_moveD rfl rfl ?_
      | refine k_loadW rfl rfl rfl (by first | rfl | (simp only [cellsD]; rfl)) ?_
      | refine k_loadBD rfl rfl rfl (by first | rfl | (simp only [cellsD]; rfl)) ?_
      | refine k_bin2B rfl rfl rfl rfl ?_
      | refine k_pickT rfl rfl (by first | rfl | assumption) rfl ?_
      | refine k_pickF rfl rfl (by first | rfl | assumption) rfl ?_
      | refine k_boxW rfl rfl rfl (by first | rfl | (simp only [cellsD]; rfl)) ?_
      | refine k_call rfl (by kernel_rfl) rfl (by first | exact c1 | exact c2 | exact c3) ?_
      | refine k_lenD rfl rfl ?_
      | refine k_not rfl rfl ?_)
    | refine k_guardU rfl rfl rfl ?_
    | refine k_guardNT rfl rfl (by first | rfl | assumption) rfl ?_
    | refine k_guardNF rfl rfl (by first | rfl | assumption) rfl ?_
    | refine k_guardT rfl rfl rfl (fun h => ?_) (fun h => ?_)
    | refine k_guardF rfl rfl rfl (fun h => ?_) (fun h => ?_)
    | refine run_block ?_
    | refine run_blkEnd ?_
    | refine run_skip ?_
    | refine run_exit rfl ?_
    | refine run_retOk (resOk_tmp rfl rfl ?_)
    | refine run_retOk (resOk_tmp2 rfl rfl rfl ?_ ?_)
    | refine run_retOk (resOk_cell rfl rfl rfl (by first | rfl | (simp only [cellsD]; rfl)) ?_)
    | refine run_retOk (resOk_cellTmp rfl rfl rfl (by first | rfl | (simp only [cellsD]; rfl)) rfl ?_ ?_)
    | (first
      | refine k_assignD rfl rfl ?_
      | refine k_moveD rfl rfl ?_
      | refine k_loadW rfl rfl rfl (by first | rfl | (simp only [cellsD]; rfl)) ?_
      | refine k_loadBD rfl rfl rfl (by first | rfl | (simp only [cellsD]; rfl)) ?_
      | refine k_bin2B rfl rfl rfl rfl ?_
      | refine k_pickT rfl rfl (by first | rfl | assumption) rfl ?_
      | refine k_pickF rfl rfl (by first | rfl | assumption) rfl ?_
      | refine k_boxW rfl rfl rfl (by first | rfl | (simp only [cellsD]; rfl)) ?_
      | refine k_call rfl (by kernel_rfl) rfl (by first | exact c1 | exact c2 | exact c3) ?_
      | refine k_lenD rfl rfl ?_
      | refine k_not rfl rfl ?_)
    | refine run_drawC (by kernel_rfl) ?_
    | refine c_nil (And.intro (by kernel_rfl) ?_)
    | refine c_pick (d_assignD rfl rfl) ?_
    | refine c_pick (d_moveD rfl rfl) ?_
    | refine c_pick (d_loadW rfl rfl rfl (by first | rfl | (simp only [cellsD]; rfl))) ?_
    | refine c_pick (d_loadBD rfl rfl rfl (by first | rfl | (simp only [cellsD]; rfl))) ?_
    | refine c_pick (d_bin2B rfl rfl rfl rfl) ?_
    | refine c_pick (d_pickT rfl rfl (by first | rfl | assumption) rfl) ?_
    | refine c_pick (d_pickF rfl rfl (by first | rfl | assumption) rfl) ?_
    | refine c_pick (d_boxW rfl rfl rfl (by first | rfl | (simp only [cellsD]; rfl))) ?_
    | refine c_pick (d_call rfl (by kernel_rfl) rfl (by first | exact c1 | exact c2 | exact c3)) ?_
    | refine c_pick (d_lenD rfl rfl) ?_
    | refine c_pick (d_not rfl rfl) ?_
    | refine c_passU rfl rfl ?_
    | refine c_passT rfl (by first | rfl | assumption) rfl ?_
    | refine c_passF rfl (by first | rfl | assumption) rfl ?_
    | refine c_pickY rfl (by first | rfl | assumption) (d_assignD rfl rfl) ?_
    | refine c_pickY rfl (by first | rfl | assumption) (d_moveD rfl rfl) ?_
    | refine c_pickY rfl (by first | rfl | assumption) (d_loadW rfl rfl rfl (by first | rfl | (simp only [cellsD]; rfl))) ?_
    | refine c_pickY rfl (by first | rfl | assumption) (d_loadBD rfl rfl rfl (by first | rfl | (simp only [cellsD]; rfl))) ?_
    | refine c_pickY rfl (by first | rfl | assumption) (d_bin2B rfl rfl rfl rfl) ?_
    | refine c_pickY rfl (by first | rfl | assumption) (d_pickT rfl rfl (by first | rfl | assumption) rfl) ?_
    | refine c_pickY rfl (by first | rfl | assumption) (d_pickF rfl rfl (by first | rfl | assumption) rfl) ?_
    | refine c_pickY rfl (by first | rfl | assumption) (d_boxW rfl rfl rfl (by first | rfl | (simp only [cellsD]; rfl))) ?_
    | refine c_pickY rfl (by first | rfl | assumption) (d_call rfl (by kernel_rfl) rfl (by first | exact c1 | exact c2 | exact c3)) ?_
    | refine c_pickY rfl (by first | rfl | assumption) (d_lenD rfl rfl) ?_
    | refine c_pickY rfl (by first | rfl | assumption) (d_not rfl rfl) ?_
    | refine c_pickD rfl (by assumption) (d_assignD rfl rfl) ?_
    | refine c_pickD rfl (by assumption) (d_moveD rfl rfl) ?_
    | refine c_pickD rfl (by assumption) (d_loadW rfl rfl rfl (by first | rfl | (simp only [cellsD]; rfl))) ?_
    | refine c_pickD rfl (by assumption) (d_loadBD rfl rfl rfl (by first | rfl | (simp only [cellsD]; rfl))) ?_
    | refine c_pickD rfl (by assumption) (d_bin2B rfl rfl rfl rfl) ?_
    | refine c_pickD rfl (by assumption) (d_pickT rfl rfl (by first | rfl | assumption) rfl) ?_
    | refine c_pickD rfl (by assumption) (d_pickF rfl rfl (by first | rfl | assumption) rfl) ?_
    | refine c_pickD rfl (by assumption) (d_boxW rfl rfl rfl (by first | rfl | (simp only [cellsD]; rfl))) ?_
    | refine c_pickD rfl (by assumption) (d_call rfl (by kernel_rfl) rfl (by first | exact c1 | exact c2 | exact c3)) ?_
    | refine c_pickD rfl (by assumption) (d_lenD rfl rfl) ?_
    | refine c_pickD rfl (by assumption) (d_not rfl rfl) ?_
    | refine c_splitT rfl rfl (fun h => ?_) (fun h => ?_)
    | refine c_splitF rfl rfl (fun h => ?_) (fun h => ?_)
    | fail)
    all_goals exact PLe.refl _
  | true =>
  cases o2 : ordV x with
  | false =>
    rw [o1] at c3
    rw [o2] at c4
    refine pcall_of_run Try.func8 rfl Try.ntmps8 rfl (fun X => ?_)
    repeat' (first
    | refine run_seq ?_
    | (refine k_pick rfl ?_; first
      | refine k_assignD rfl rfl ?_
      | refine k_moveD rfl rfl ?_
      | refine k_loadW rfl rfl rfl (by first | rfl | (simp only [cellsD]; rfl)) ?_
      | refine k_loadBD rfl rfl rfl (by first | rfl | (simp only [cellsD]; rfl)) ?_
      | refine k_bin2B rfl rfl rfl rfl ?_
      | refine k_pickT rfl rfl (by first | rfl | assumption) rfl ?_
      | refine k_pickF rfl rfl (by first | rfl | assumption) rfl ?_
      | refine k_boxW rfl rfl rfl (by first | rfl | (simp only [cellsD]; rfl)) ?_
      | refine k_call rfl (by kernel_rfl) rfl (by first | exact c1 | exact c2 | exact c3 | exact c4) ?_
      | refine k_lenD rfl rfl ?_
      | refine k_not rfl rfl ?_)
    | refine run_opsEnd ?_
    | refine run_region ?_
    | refine run_condT rfl (by first | rfl | assumption) ?_
    | refine run_condF rfl (by first | rfl | assumption) ?_
    | refine run_cond rfl (fun h => ?_) (fun h => ?_)
    | (refine k_guardY rfl rfl (by first | rfl | assumption) ?_; first
      | refine k_assignD rfl rfl ?_
      | refine k_moveD rfl rfl ?_
      | refine k_loadW rfl rfl rfl (by first | rfl | (simp only [cellsD]; rfl)) ?_
      | refine k_loadBD rfl rfl rfl (by first | rfl | (simp only [cellsD]; rfl)) ?_
      | refine k_bin2B rfl rfl rfl rfl ?_
      | refine k_pickT rfl rfl (by first | rfl | assumption) rfl ?_
      | refine k_pickF rfl rfl (by first | rfl | assumption) rfl ?_
      | refine k_boxW rfl rfl rfl (by first | rfl | (simp only [cellsD]; rfl)) ?_
      | refine k_call rfl (by kernel_rfl) rfl (by first | exact c1 | exact c2 | exact c3 | exact c4) ?_
      | refine k_lenD rfl rfl ?_
      | refine k_not rfl rfl ?_)
    | refine k_guardU rfl rfl rfl ?_
    | refine k_guardNT rfl rfl (by first | rfl | assumption) rfl ?_
    | refine k_guardNF rfl rfl (by first | rfl | assumption) rfl ?_
    | refine k_guardT rfl rfl rfl (fun h => ?_) (fun h => ?_)
    | refine k_guardF rfl rfl rfl (fun h => ?_) (fun h => ?_)
    | refine run_block ?_
    | refine run_blkEnd ?_
    | refine run_skip ?_
    | refine run_exit rfl ?_
    | refine run_retOk (resOk_tmp rfl rfl ?_)
    | refine run_retOk (resOk_tmp2 rfl rfl rfl ?_ ?_)
    | refine run_retOk (resOk_cell rfl rfl rfl (by first | rfl | (simp only [cellsD]; rfl)) ?_)
    | refine run_retOk (resOk_cellTmp rfl rfl rfl (by first | rfl | (simp only [cellsD]; rfl)) rfl ?_ ?_)
    | (first
      | refine k_assignD rfl rfl ?_
      | refine k_moveD rfl rfl ?_
      | refine k_loadW rfl rfl rfl (by first | rfl | (simp only [cellsD]; rfl)) ?_
      | refine k_loadBD rfl rfl rfl (by first | rfl | (simp only [cellsD]; rfl)) ?_
      | refine k_bin2B rfl rfl rfl rfl ?_
      | refine k_pickT rfl rfl (by first | rfl | assumption) rfl ?_
      | refine k_pickF rfl rfl (by first | rfl | assumption) rfl ?_
      | refine k_boxW rfl rfl rfl (by first | rfl | (simp only [cellsD]; rfl)) ?_
      | refine k_call rfl (by kernel_rfl) rfl (by first | exact c1 | exact c2 | exact c3 | exact c4) ?_
      | refine k_lenD rfl rfl ?_
      | refine k_not rfl rfl ?_)
    | refine run_drawC (by kernel_rfl) ?_
    | refine c_nil (And.intro (by kernel_rfl) ?_)
    | refine c_pick (d_assignD rfl rfl) ?_
    | refine c_pick (d_moveD rfl rfl) ?_
    | refine c_pick (d_loadW rfl rfl rfl (by first | rfl | (simp only [cellsD]; rfl))) ?_
    | refine c_pick (d_loadBD rfl rfl rfl (by first | rfl | (simp only [cellsD]; rfl))) ?_
    | refine c_pick (d_bin2B rfl rfl rfl rfl) ?_
    | refine c_pick (d_pickT rfl rfl (by first | rfl | assumption) rfl) ?_
    | refine c_pick (d_pickF rfl rfl (by first | rfl | assumption) rfl) ?_
    | refine c_pick (d_boxW rfl rfl rfl (by first | rfl | (simp only [cellsD]; rfl))) ?_
    | refine c_pick (d_call rfl (by kernel_rfl) rfl (by first | exact c1 | exact c2 | exact c3 | exact c4)) ?_
    | refine c_pick (d_lenD rfl rfl) ?_
    | refine c_pick (d_not rfl rfl) ?_
    | refine c_passU rfl rfl ?_
    | refine c_passT rfl (by first | rfl | assumption) rfl ?_
    | refine c_passF rfl (by first | rfl | assumption) rfl ?_
    | refine c_pickY rfl (by first | rfl | assumption) (d_assignD rfl rfl) ?_
    | refine c_pickY rfl (by first | rfl | assumption) (d_moveD rfl rfl) ?_
    | refine c_pickY rfl (by first | rfl | assumption) (d_loadW rfl rfl rfl (by first | rfl | (simp only [cellsD]; rfl))) ?_
    | refine c_pickY rfl (by first | rfl | assumption) (d_loadBD rfl rfl rfl (by first | rfl | (simp only [cellsD]; rfl))) ?_
    | refine c_pickY rfl (by first | rfl | assumption) (d_bin2B rfl rfl rfl rfl) ?_
    | refine c_pickY rfl (by first | rfl | assumption) (d_pickT rfl rfl (by first | rfl | assumption) rfl) ?_
    | refine c_pickY rfl (by first | rfl | assumption) (d_pickF rfl rfl (by first | rfl | assumption) rfl) ?_
    | refine c_pickY rfl (by first | rfl | assumption) (d_boxW rfl rfl rfl (by first | rfl | (simp only [cellsD]; rfl))) ?_
    | refine c_pickY rfl (by first | rfl | assumption) (d_call rfl (by kernel_rfl) rfl (by first | exact c1 | exact c2 | exact c3 | exact c4)) ?_
    | refine c_pickY rfl (by first | rfl | assumption) (d_lenD rfl rfl) ?_
    | refine c_pickY rfl (by first | rfl | assumption) (d_not rfl rfl) ?_
    | refine c_pickD rfl (by assumption) (d_assignD rfl rfl) ?_
    | refine c_pickD rfl (by assumption) (d_moveD rfl rfl) ?_
    | refine c_pickD rfl (by assumption) (d_loadW rfl rfl rfl (by first | rfl | (simp only [cellsD]; rfl))) ?_
    | refine c_pickD rfl (by assumption) (d_loadBD rfl rfl rfl (by first | rfl | (simp only [cellsD]; rfl))) ?_
    | refine c_pickD rfl (by assumption) (d_bin2B rfl rfl rfl rfl) ?_
    | refine c_pickD rfl (by assumption) (d_pickT rfl rfl (by first | rfl | assumption) rfl) ?_
    | refine c_pickD rfl (by assumption) (d_pickF rfl rfl (by first | rfl | assumption) rfl) ?_
    | refine c_pickD rfl (by assumption) (d_boxW rfl rfl rfl (by first | rfl | (simp only [cellsD]; rfl))) ?_
    | refine c_pickD rfl (by assumption) (d_call rfl (by kernel_rfl) rfl (by first | exact c1 | exact c2 | exact c3 | exact c4)) ?_
    | refine c_pickD rfl (by assumption) (d_lenD rfl rfl) ?_
    | refine c_pickD rfl (by assumption) (d_not rfl rfl) ?_
    | refine c_splitT rfl rfl (fun h => ?_) (fun h => ?_)
    | refine c_splitF rfl rfl (fun h => ?_) (fun h => ?_)
    | fail)
    all_goals exact PLe.refl _
  | true =>
  cases o3 : ordV y with
  | false =>
    rw [o1] at c3
    rw [o2] at c4
    rw [o3] at c5
    refine pcall_of_run Try.func8 rfl Try.ntmps8 rfl (fun X => ?_)
    repeat' (first
    | refine run_seq ?_
    | (refine k_pick rfl ?_; first
      | refine k_assignD rfl rfl ?_
      | refine k_moveD rfl rfl ?_
      | refine k_loadW rfl rfl rfl (by first | rfl | (simp only [cellsD]; rfl)) ?_
      | refine k_loadBD rfl rfl rfl (by first | rfl | (simp only [cellsD]; rfl)) ?_
      | refine k_bin2B rfl rfl rfl rfl ?_
      | refine k_pickT rfl rfl (by first | rfl | assumption) rfl ?_
      | refine k_pickF rfl rfl (by first | rfl | assumption) rfl ?_
      | refine k_boxW rfl rfl rfl (by first | rfl | (simp only [cellsD]; rfl)) ?_
      | refine k_call rfl (by kernel_rfl) rfl (by first | exact c1 | exact c2 | exact c3 | exact c4 | exact c5) ?_
      | refine k_lenD rfl rfl ?_
      | refine k_not rfl rfl ?_)
    | refine run_opsEnd ?_
    | refine run_region ?_
    | refine run_condT rfl (by first | rfl | assumption) ?_
    | refine run_condF rfl (by first | rfl | assumption) ?_
    | refine run_cond rfl (fun h => ?_) (fun h => ?_)
    | (refine k_guardY rfl rfl (by first | rfl | assumption) ?_; first
      | refine k_assignD rfl rfl ?_
      | refine k_moveD rfl rfl ?_
      | refine k_loadW rfl rfl rfl (by first | rfl | (simp only [cellsD]; rfl)) ?_
      | refine k_loadBD rfl rfl rfl (by first | rfl | (simp only [cellsD]; rfl)) ?_
      | refine k_bin2B rfl rfl rfl rfl ?_
      | refine k_pickT rfl rfl (by first | rfl | assumption) rfl ?_
      | refine k_pickF rfl rfl (by first | rfl | assumption) rfl ?_
      | refine k_boxW rfl rfl rfl (by first | rfl | (simp only [cellsD]; rfl)) ?_
      | refine k_call rfl (by kernel_rfl) rfl (by first | exact c1 | exact c2 | exact c3 | exact c4 | exact c5) ?_
      | refine k_lenD rfl rfl ?_
      | refine k_not rfl rfl ?_)
    | refine k_guardU rfl rfl rfl ?_
    | refine k_guardNT rfl rfl (by first | rfl | assumption) rfl ?_
    | refine k_guardNF rfl rfl (by first | rfl | assumption) rfl ?_
    | refine k_guardT rfl rfl rfl (fun h => ?_) (fun h => ?_)
    | refine k_guardF rfl rfl rfl (fun h => ?_) (fun h => ?_)
    | refine run_block ?_
    | refine run_blkEnd ?_
    | refine run_skip ?_
    | refine run_exit rfl ?_
    | refine run_retOk (resOk_tmp rfl rfl ?_)
    | refine run_retOk (resOk_tmp2 rfl rfl rfl ?_ ?_)
    | refine run_retOk (resOk_cell rfl rfl rfl (by first | rfl | (simp only [cellsD]; rfl)) ?_)
    | refine run_retOk (resOk_cellTmp rfl rfl rfl (by first | rfl | (simp only [cellsD]; rfl)) rfl ?_ ?_)
    | (first
      | refine k_assignD rfl rfl ?_
      | refine k_moveD rfl rfl ?_
      | refine k_loadW rfl rfl rfl (by first | rfl | (simp only [cellsD]; rfl)) ?_
      | refine k_loadBD rfl rfl rfl (by first | rfl | (simp only [cellsD]; rfl)) ?_
      | refine k_bin2B rfl rfl rfl rfl ?_
      | refine k_pickT rfl rfl (by first | rfl | assumption) rfl ?_
      | refine k_pickF rfl rfl (by first | rfl | assumption) rfl ?_
      | refine k_boxW rfl rfl rfl (by first | rfl | (simp only [cellsD]; rfl)) ?_
      | refine k_call rfl (by kernel_rfl) rfl (by first | exact c1 | exact c2 | exact c3 | exact c4 | exact c5) ?_
      | refine k_lenD rfl rfl ?_
      | refine k_not rfl rfl ?_)
    | refine run_drawC (by kernel_rfl) ?_
    | refine c_nil (And.intro (by kernel_rfl) ?_)
    | refine c_pick (d_assignD rfl rfl) ?_
    | refine c_pick (d_moveD rfl rfl) ?_
    | refine c_pick (d_loadW rfl rfl rfl (by first | rfl | (simp only [cellsD]; rfl))) ?_
    | refine c_pick (d_loadBD rfl rfl rfl (by first | rfl | (simp only [cellsD]; rfl))) ?_
    | refine c_pick (d_bin2B rfl rfl rfl rfl) ?_
    | refine c_pick (d_pickT rfl rfl (by first | rfl | assumption) rfl) ?_
    | refine c_pick (d_pickF rfl rfl (by first | rfl | assumption) rfl) ?_
    | refine c_pick (d_boxW rfl rfl rfl (by first | rfl | (simp only [cellsD]; rfl))) ?_
    | refine c_pick (d_call rfl (by kernel_rfl) rfl (by first | exact c1 | exact c2 | exact c3 | exact c4 | exact c5)) ?_
    | refine c_pick (d_lenD rfl rfl) ?_
    | refine c_pick (d_not rfl rfl) ?_
    | refine c_passU rfl rfl ?_
    | refine c_passT rfl (by first | rfl | assumption) rfl ?_
    | refine c_passF rfl (by first | rfl | assumption) rfl ?_
    | refine c_pickY rfl (by first | rfl | assumption) (d_assignD rfl rfl) ?_
    | refine c_pickY rfl (by first | rfl | assumption) (d_moveD rfl rfl) ?_
    | refine c_pickY rfl (by first | rfl | assumption) (d_loadW rfl rfl rfl (by first | rfl | (simp only [cellsD]; rfl))) ?_
    | refine c_pickY rfl (by first | rfl | assumption) (d_loadBD rfl rfl rfl (by first | rfl | (simp only [cellsD]; rfl))) ?_
    | refine c_pickY rfl (by first | rfl | assumption) (d_bin2B rfl rfl rfl rfl) ?_
    | refine c_pickY rfl (by first | rfl | assumption) (d_pickT rfl rfl (by first | rfl | assumption) rfl) ?_
    | refine c_pickY rfl (by first | rfl | assumption) (d_pickF rfl rfl (by first | rfl | assumption) rfl) ?_
    | refine c_pickY rfl (by first | rfl | assumption) (d_boxW rfl rfl rfl (by first | rfl | (simp only [cellsD]; rfl))) ?_
    | refine c_pickY rfl (by first | rfl | assumption) (d_call rfl (by kernel_rfl) rfl (by first | exact c1 | exact c2 | exact c3 | exact c4 | exact c5)) ?_
    | refine c_pickY rfl (by first | rfl | assumption) (d_lenD rfl rfl) ?_
    | refine c_pickY rfl (by first | rfl | assumption) (d_not rfl rfl) ?_
    | refine c_pickD rfl (by assumption) (d_assignD rfl rfl) ?_
    | refine c_pickD rfl (by assumption) (d_moveD rfl rfl) ?_
    | refine c_pickD rfl (by assumption) (d_loadW rfl rfl rfl (by first | rfl | (simp only [cellsD]; rfl))) ?_
    | refine c_pickD rfl (by assumption) (d_loadBD rfl rfl rfl (by first | rfl | (simp only [cellsD]; rfl))) ?_
    | refine c_pickD rfl (by assumption) (d_bin2B rfl rfl rfl rfl) ?_
    | refine c_pickD rfl (by assumption) (d_pickT rfl rfl (by first | rfl | assumption) rfl) ?_
    | refine c_pickD rfl (by assumption) (d_pickF rfl rfl (by first | rfl | assumption) rfl) ?_
    | refine c_pickD rfl (by assumption) (d_boxW rfl rfl rfl (by first | rfl | (simp only [cellsD]; rfl))) ?_
    | refine c_pickD rfl (by assumption) (d_call rfl (by kernel_rfl) rfl (by first | exact c1 | exact c2 | exact c3 | exact c4 | exact c5)) ?_
    | refine c_pickD rfl (by assumption) (d_lenD rfl rfl) ?_
    | refine c_pickD rfl (by assumption) (d_not rfl rfl) ?_
    | refine c_splitT rfl rfl (fun h => ?_) (fun h => ?_)
    | refine c_splitF rfl rfl (fun h => ?_) (fun h => ?_)
    | fail)
    all_goals exact PLe.refl _
  | true =>
  cases o4 : eqP (cleanV x) (cleanV y) with
  | true =>
    rw [o1] at c3
    rw [o2] at c4
    rw [o3] at c5
    rw [o4] at c6
    refine pcall_of_run Try.func8 rfl Try.ntmps8 rfl (fun X => ?_)
    repeat' (first
    | refine run_seq ?_
    | (refine k_pick rfl ?_; first
      | refine k_assignD rfl rfl ?_
      | refine k_moveD rfl rfl ?_
      | refine k_loadW rfl rfl rfl (by first | rfl | (simp only [cellsD]; rfl)) ?_
      | refine k_loadBD rfl rfl rfl (by first | rfl | (simp only [cellsD]; rfl)) ?_
      | refine k_bin2B rfl rfl rfl rfl ?_
      | refine k_pickT rfl rfl (by first | rfl | assumption) rfl ?_
      | refine k_pickF rfl rfl (by first | rfl | assumption) rfl ?_
      | refine k_boxW rfl rfl rfl (by first | rfl | (simp only [cellsD]; rfl)) ?_
      | refine k_call rfl (by kernel_rfl) rfl (by first | exact c1 | exact c2 | exact c3 | exact c4 | exact c5 | exact c6) ?_
      | refine k_lenD rfl rfl ?_
      | refine k_not rfl rfl ?_)
    | refine run_opsEnd ?_
    | refine run_region ?_
    | refine run_condT rfl (by first | rfl | assumption) ?_
    | refine run_condF rfl (by first | rfl | assumption) ?_
    | refine run_cond rfl (fun h => ?_) (fun h => ?_)
    | (refine k_guardY rfl rfl (by first | rfl | assumption) ?_; first
      | refine k_assignD rfl rfl ?_
      | refine k_moveD rfl rfl ?_
      | refine k_loadW rfl rfl rfl (by first | rfl | (simp only [cellsD]; rfl)) ?_
      | refine k_loadBD rfl rfl rfl (by first | rfl | (simp only [cellsD]; rfl)) ?_
      | refine k_bin2B rfl rfl rfl rfl ?_
      | refine k_pickT rfl rfl (by first | rfl | assumption) rfl ?_
      | refine k_pickF rfl rfl (by first | rfl | assumption) rfl ?_
      | refine k_boxW rfl rfl rfl (by first | rfl | (simp only [cellsD]; rfl)) ?_
      | refine k_call rfl (by kernel_rfl) rfl (by first | exact c1 | exact c2 | exact c3 | exact c4 | exact c5 | exact c6) ?_
      | refine k_lenD rfl rfl ?_
      | refine k_not rfl rfl ?_)
    | refine k_guardU rfl rfl rfl ?_
    | refine k_guardNT rfl rfl (by first | rfl | assumption) rfl ?_
    | refine k_guardNF rfl rfl (by first | rfl | assumption) rfl ?_
    | refine k_guardT rfl rfl rfl (fun h => ?_) (fun h => ?_)
    | refine k_guardF rfl rfl rfl (fun h => ?_) (fun h => ?_)
    | refine run_block ?_
    | refine run_blkEnd ?_
    | refine run_skip ?_
    | refine run_exit rfl ?_
    | refine run_retOk (resOk_tmp rfl rfl ?_)
    | refine run_retOk (resOk_tmp2 rfl rfl rfl ?_ ?_)
    | refine run_retOk (resOk_cell rfl rfl rfl (by first | rfl | (simp only [cellsD]; rfl)) ?_)
    | refine run_retOk (resOk_cellTmp rfl rfl rfl (by first | rfl | (simp only [cellsD]; rfl)) rfl ?_ ?_)
    | (first
      | refine k_assignD rfl rfl ?_
      | refine k_moveD rfl rfl ?_
      | refine k_loadW rfl rfl rfl (by first | rfl | (simp only [cellsD]; rfl)) ?_
      | refine k_loadBD rfl rfl rfl (by first | rfl | (simp only [cellsD]; rfl)) ?_
      | refine k_bin2B rfl rfl rfl rfl ?_
      | refine k_pickT rfl rfl (by first | rfl | assumption) rfl ?_
      | refine k_pickF rfl rfl (by first | rfl | assumption) rfl ?_
      | refine k_boxW rfl rfl rfl (by first | rfl | (simp only [cellsD]; rfl)) ?_
      | refine k_call rfl (by kernel_rfl) rfl (by first | exact c1 | exact c2 | exact c3 | exact c4 | exact c5 | exact c6) ?_
      | refine k_lenD rfl rfl ?_
      | refine k_not rfl rfl ?_)
    | refine run_drawC (by kernel_rfl) ?_
    | refine c_nil (And.intro (by kernel_rfl) ?_)
    | refine c_pick (d_assignD rfl rfl) ?_
    | refine c_pick (d_moveD rfl rfl) ?_
    | refine c_pick (d_loadW rfl rfl rfl (by first | rfl | (simp only [cellsD]; rfl))) ?_
    | refine c_pick (d_loadBD rfl rfl rfl (by first | rfl | (simp only [cellsD]; rfl))) ?_
    | refine c_pick (d_bin2B rfl rfl rfl rfl) ?_
    | refine c_pick (d_pickT rfl rfl (by first | rfl | assumption) rfl) ?_
    | refine c_pick (d_pickF rfl rfl (by first | rfl | assumption) rfl) ?_
    | refine c_pick (d_boxW rfl rfl rfl (by first | rfl | (simp only [cellsD]; rfl))) ?_
    | refine c_pick (d_call rfl (by kernel_rfl) rfl (by first | exact c1 | exact c2 | exact c3 | exact c4 | exact c5 | exact c6)) ?_
    | refine c_pick (d_lenD rfl rfl) ?_
    | refine c_pick (d_not rfl rfl) ?_
    | refine c_passU rfl rfl ?_
    | refine c_passT rfl (by first | rfl | assumption) rfl ?_
    | refine c_passF rfl (by first | rfl | assumption) rfl ?_
    | refine c_pickY rfl (by first | rfl | assumption) (d_assignD rfl rfl) ?_
    | refine c_pickY rfl (by first | rfl | assumption) (d_moveD rfl rfl) ?_
    | refine c_pickY rfl (by first | rfl | assumption) (d_loadW rfl rfl rfl (by first | rfl | (simp only [cellsD]; rfl))) ?_
    | refine c_pickY rfl (by first | rfl | assumption) (d_loadBD rfl rfl rfl (by first | rfl | (simp only [cellsD]; rfl))) ?_
    | refine c_pickY rfl (by first | rfl | assumption) (d_bin2B rfl rfl rfl rfl) ?_
    | refine c_pickY rfl (by first | rfl | assumption) (d_pickT rfl rfl (by first | rfl | assumption) rfl) ?_
    | refine c_pickY rfl (by first | rfl | assumption) (d_pickF rfl rfl (by first | rfl | assumption) rfl) ?_
    | refine c_pickY rfl (by first | rfl | assumption) (d_boxW rfl rfl rfl (by first | rfl | (simp only [cellsD]; rfl))) ?_
    | refine c_pickY rfl (by first | rfl | assumption) (d_call rfl (by kernel_rfl) rfl (by first | exact c1 | exact c2 | exact c3 | exact c4 | exact c5 | exact c6)) ?_
    | refine c_pickY rfl (by first | rfl | assumption) (d_lenD rfl rfl) ?_
    | refine c_pickY rfl (by first | rfl | assumption) (d_not rfl rfl) ?_
    | refine c_pickD rfl (by assumption) (d_assignD rfl rfl) ?_
    | refine c_pickD rfl (by assumption) (d_moveD rfl rfl) ?_
    | refine c_pickD rfl (by assumption) (d_loadW rfl rfl rfl (by first | rfl | (simp only [cellsD]; rfl))) ?_
    | refine c_pickD rfl (by assumption) (d_loadBD rfl rfl rfl (by first | rfl | (simp only [cellsD]; rfl))) ?_
    | refine c_pickD rfl (by assumption) (d_bin2B rfl rfl rfl rfl) ?_
    | refine c_pickD rfl (by assumption) (d_pickT rfl rfl (by first | rfl | assumption) rfl) ?_
    | refine c_pickD rfl (by assumption) (d_pickF rfl rfl (by first | rfl | assumption) rfl) ?_
    | refine c_pickD rfl (by assumption) (d_boxW rfl rfl rfl (by first | rfl | (simp only [cellsD]; rfl))) ?_
    | refine c_pickD rfl (by assumption) (d_call rfl (by kernel_rfl) rfl (by first | exact c1 | exact c2 | exact c3 | exact c4 | exact c5 | exact c6)) ?_
    | refine c_pickD rfl (by assumption) (d_lenD rfl rfl) ?_
    | refine c_pickD rfl (by assumption) (d_not rfl rfl) ?_
    | refine c_splitT rfl rfl (fun h => ?_) (fun h => ?_)
    | refine c_splitF rfl rfl (fun h => ?_) (fun h => ?_)
    | fail)
    all_goals exact PLe.refl _
  | false =>
  have w1 := OG_clean f2 o2
  have w2 := OG_clean f3 o3
  have w3 := OGs_clean f1 o1
  have hne : cmpP (cleanV x) (cleanV y) ≠ 0 := fun h => by rw [(eqP_iff _ _ w1 w2).2 h] at o4; cases o4
  have k1 := joined_p be [x] (by simp; omega)
  have k2 := joined_p (be ++ [x]) a (by simp; omega)
  have k3 := joined_p be [y] (by simp; omega)
  have k4 := joined_p (be ++ [y]) b (by simp; omega)
  have e1 : cleanL (be ++ [x] ++ a) = cleanL be ++ cleanV x :: cleanL a := by rw [cleanL_app, cleanL_app]; simp [cleanL]
  have e2 : cleanL (be ++ [y] ++ b) = cleanL be ++ cleanV y :: cleanL b := by rw [cleanL_app, cleanL_app]; simp [cleanL]
  have k5 := sCmpVals_p x y
  have k6 := compareLists_p (be ++ [x] ++ a) (be ++ [y] ++ b)
  have k7 := list_p (be ++ [x] ++ a)
  have k8 := list_p (be ++ [y] ++ b)
  have k9 := implCmp_p (.mk 5 0 0 ByteArray.empty [] (be ++ [x] ++ a)) (.mk 5 0 0 ByteArray.empty [] (be ++ [y] ++ b))
  have k10 := equalLists_p (be ++ [x] ++ a) (be ++ [y] ++ b)
  rw [cleanV_list, cleanV_list, cmpP_lists, e1, e2, cmpPl_begin _ _ _ _ _ (fun z hz => cmpP_self (w3 z hz)) hne] at k9
  rw [e1, e2, cmpPl_begin _ _ _ _ _ (fun z hz => cmpP_self (w3 z hz)) hne] at k6
  have hi : ∀ (u : GV) (t : List GV), (cleanL be ++ u :: t)[(cleanL be).length]? = some u := fun u t => by rw [List.getElem?_append_right (Nat.le_refl _)]; simp
  rw [e1, e2, eqPs_false (hi _ _) (hi _ _) o4] at k10
  rw [o1] at c3
  rw [o2] at c4
  rw [o3] at c5
  rw [o4] at c6
  have vx : pdVs [x] = [qV x] := by simp only [pdVs]; rw [pdV_eq]; rfl
  have vy : pdVs [y] = [qV y] := by simp only [pdVs]; rw [pdV_eq]; rfl
  rw [vx] at k1
  rw [vy] at k3
  clear e1 e2 w1 w2 w3 hne hi o1 o2 o3 o4 f1 f2 f3 h1 h2 h3 n1 n2 n3
  generalize cmpP (cleanV x) (cleanV y) = c at *
  generalize be ++ [x] ++ a = l at *
  generalize be ++ [y] ++ b = m at *
  generalize be ++ [x] = l' at *
  generalize be ++ [y] = m' at *
  have hc : decide (c = c) = true := decide_eq_true rfl
  refine pcall_of_run Try.func8 rfl Try.ntmps8 rfl (fun X => ?_)
  repeat' (first
    | refine run_seq ?_
    | (refine k_pick rfl ?_; first
      | refine k_buildSliceF rfl (by kernel_rfl) rfl rfl rfl rfl rfl ?_
      | refine k_assignD rfl rfl ?_
      | refine k_moveD rfl rfl ?_
      | refine k_loadW rfl rfl rfl (by first | rfl | (simp only [cellsD]; rfl)) ?_
      | refine k_loadBD rfl rfl rfl (by first | rfl | (simp only [cellsD]; rfl)) ?_
      | refine k_bin2B rfl rfl rfl rfl ?_
      | refine k_pickT rfl rfl (by first | rfl | assumption) rfl ?_
      | refine k_pickF rfl rfl (by first | rfl | assumption) rfl ?_
      | refine k_boxW rfl rfl rfl (by first | rfl | (simp only [cellsD]; rfl)) ?_
      | refine k_call rfl (by kernel_rfl) rfl (by first | exact c1 | exact c2 | exact c3 | exact c4 | exact c5 | exact c6 | exact k1 | exact k2 | exact k3 | exact k4 | exact k5 | exact k6 | exact k7 | exact k8 | exact k9 | exact k10) ?_
      | refine k_lenD rfl rfl ?_
      | refine k_not rfl rfl ?_
      | refine k_storeB rfl rfl rfl rfl rfl ?_
      | refine k_storeW rfl rfl rfl (by first | rfl | (simp only [cellsD]; rfl)) (by first | rfl | (simp only [cellsD]; rfl)) rfl ?_
      | refine k_alloc rfl rfl ?_)
    | refine run_opsEnd ?_
    | refine run_region ?_
    | refine run_condT rfl (by first | rfl | assumption) ?_
    | refine run_condF rfl (by first | rfl | assumption) ?_
    | refine run_cond rfl (fun h => ?_) (fun h => ?_)
    | (refine k_guardY rfl rfl (by first | rfl | assumption) ?_; first
      | refine k_buildSliceF rfl (by kernel_rfl) rfl rfl rfl rfl rfl ?_
      | refine k_assignD rfl rfl ?_
      | refine k_moveD rfl rfl ?_
      | refine k_loadW rfl rfl rfl (by first | rfl | (simp only [cellsD]; rfl)) ?_
      | refine k_loadBD rfl rfl rfl (by first | rfl | (simp only [cellsD]; rfl)) ?_
      | refine k_bin2B rfl rfl rfl rfl ?_
      | refine k_pickT rfl rfl (by first | rfl | assumption) rfl ?_
      | refine k_pickF rfl rfl (by first | rfl | assumption) rfl ?_
      | refine k_boxW rfl rfl rfl (by first | rfl | (simp only [cellsD]; rfl)) ?_
      | refine k_call rfl (by kernel_rfl) rfl (by first | exact c1 | exact c2 | exact c3 | exact c4 | exact c5 | exact c6 | exact k1 | exact k2 | exact k3 | exact k4 | exact k5 | exact k6 | exact k7 | exact k8 | exact k9 | exact k10) ?_
      | refine k_lenD rfl rfl ?_
      | refine k_not rfl rfl ?_
      | refine k_storeB rfl rfl rfl rfl rfl ?_
      | refine k_storeW rfl rfl rfl (by first | rfl | (simp only [cellsD]; rfl)) (by first | rfl | (simp only [cellsD]; rfl)) rfl ?_
      | refine k_alloc rfl rfl ?_)
    | refine k_guardU rfl rfl rfl ?_
    | refine k_guardNT rfl rfl (by first | rfl | assumption) rfl ?_
    | refine k_guardNF rfl rfl (by first | rfl | assumption) rfl ?_
    | refine k_guardT rfl rfl rfl (fun h => ?_) (fun h => ?_)
    | refine k_guardF rfl rfl rfl (fun h => ?_) (fun h => ?_)
    | refine run_block ?_
    | refine run_blkEnd ?_
    | refine run_skip ?_
    | refine run_exit rfl ?_
    | refine run_retOk (resOk_tmp rfl rfl ?_)
    | refine run_retOk (resOk_tmp2 rfl rfl rfl ?_ ?_)
    | refine run_retOk (resOk_cell rfl rfl rfl (by first | rfl | (simp only [cellsD]; rfl)) ?_)
    | refine run_retOk (resOk_cellTmp rfl rfl rfl (by first | rfl | (simp only [cellsD]; rfl)) rfl ?_ ?_)
    | (first
      | refine k_buildSliceF rfl (by kernel_rfl) rfl rfl rfl rfl rfl ?_
      | refine k_assignD rfl rfl ?_
      | refine k_moveD rfl rfl ?_
      | refine k_loadW rfl rfl rfl (by first | rfl | (simp only [cellsD]; rfl)) ?_
      | refine k_loadBD rfl rfl rfl (by first | rfl | (simp only [cellsD]; rfl)) ?_
      | refine k_bin2B rfl rfl rfl rfl ?_
      | refine k_pickT rfl rfl (by first | rfl | assumption) rfl ?_
      | refine k_pickF rfl rfl (by first | rfl | assumption) rfl ?_
      | refine k_boxW rfl rfl rfl (by first | rfl | (simp only [cellsD]; rfl)) ?_
      | refine k_call rfl (by kernel_rfl) rfl (by first | exact c1 | exact c2 | exact c3 | exact c4 | exact c5 | exact c6 | exact k1 | exact k2 | exact k3 | exact k4 | exact k5 | exact k6 | exact k7 | exact k8 | exact k9 | exact k10) ?_
      | refine k_lenD rfl rfl ?_
      | refine k_not rfl rfl ?_
      | refine k_storeB rfl rfl rfl rfl rfl ?_
      | refine k_storeW rfl rfl rfl (by first | rfl | (simp only [cellsD]; rfl)) (by first | rfl | (simp only [cellsD]; rfl)) rfl ?_
      | refine k_alloc rfl rfl ?_)
    | refine run_drawC (by kernel_rfl) ?_
    | refine c_nil (And.intro (by kernel_rfl) ?_)
    | refine c_pick (d_buildSliceF rfl (by kernel_rfl) rfl rfl rfl rfl rfl) ?_
    | refine c_pick (d_assignD rfl rfl) ?_
    | refine c_pick (d_moveD rfl rfl) ?_
    | refine c_pick (d_loadW rfl rfl rfl (by first | rfl | (simp only [cellsD]; rfl))) ?_
    | refine c_pick (d_loadBD rfl rfl rfl (by first | rfl | (simp only [cellsD]; rfl))) ?_
    | refine c_pick (d_bin2B rfl rfl rfl rfl) ?_
    | refine c_pick (d_pickT rfl rfl (by first | rfl | assumption) rfl) ?_
    | refine c_pick (d_pickF rfl rfl (by first | rfl | assumption) rfl) ?_
    | refine c_pick (d_boxW rfl rfl rfl (by first | rfl | (simp only [cellsD]; rfl))) ?_
    | refine c_pick (d_call rfl (by kernel_rfl) rfl (by first | exact c1 | exact c2 | exact c3 | exact c4 | exact c5 | exact c6 | exact k1 | exact k2 | exact k3 | exact k4 | exact k5 | exact k6 | exact k7 | exact k8 | exact k9 | exact k10)) ?_
    | refine c_pick (d_lenD rfl rfl) ?_
    | refine c_pick (d_not rfl rfl) ?_
    | refine c_pick (d_storeB rfl rfl rfl rfl rfl) ?_
    | refine c_pick (d_storeW rfl rfl rfl (by first | rfl | (simp only [cellsD]; rfl)) (by first | rfl | (simp only [cellsD]; rfl)) rfl) ?_
    | refine c_pick (d_alloc rfl rfl) ?_
    | refine c_passU rfl rfl ?_
    | refine c_passT rfl (by first | rfl | assumption) rfl ?_
    | refine c_passF rfl (by first | rfl | assumption) rfl ?_
    | refine c_pickY rfl (by first | rfl | assumption) (d_buildSliceF rfl (by kernel_rfl) rfl rfl rfl rfl rfl) ?_
    | refine c_pickY rfl (by first | rfl | assumption) (d_assignD rfl rfl) ?_
    | refine c_pickY rfl (by first | rfl | assumption) (d_moveD rfl rfl) ?_
    | refine c_pickY rfl (by first | rfl | assumption) (d_loadW rfl rfl rfl (by first | rfl | (simp only [cellsD]; rfl))) ?_
    | refine c_pickY rfl (by first | rfl | assumption) (d_loadBD rfl rfl rfl (by first | rfl | (simp only [cellsD]; rfl))) ?_
    | refine c_pickY rfl (by first | rfl | assumption) (d_bin2B rfl rfl rfl rfl) ?_
    | refine c_pickY rfl (by first | rfl | assumption) (d_pickT rfl rfl (by first | rfl | assumption) rfl) ?_
    | refine c_pickY rfl (by first | rfl | assumption) (d_pickF rfl rfl (by first | rfl | assumption) rfl) ?_
    | refine c_pickY rfl (by first | rfl | assumption) (d_boxW rfl rfl rfl (by first | rfl | (simp only [cellsD]; rfl))) ?_
    | refine c_pickY rfl (by first | rfl | assumption) (d_call rfl (by kernel_rfl) rfl (by first | exact c1 | exact c2 | exact c3 | exact c4 | exact c5 | exact c6 | exact k1 | exact k2 | exact k3 | exact k4 | exact k5 | exact k6 | exact k7 | exact k8 | exact k9 | exact k10)) ?_
    | refine c_pickY rfl (by first | rfl | assumption) (d_lenD rfl rfl) ?_
    | refine c_pickY rfl (by first | rfl | assumption) (d_not rfl rfl) ?_
    | refine c_pickY rfl (by first | rfl | assumption) (d_storeB rfl rfl rfl rfl rfl) ?_
    | refine c_pickY rfl (by first | rfl | assumption) (d_storeW rfl rfl rfl (by first | rfl | (simp only [cellsD]; rfl)) (by first | rfl | (simp only [cellsD]; rfl)) rfl) ?_
    | refine c_pickY rfl (by first | rfl | assumption) (d_alloc rfl rfl) ?_
    | refine c_pickD rfl (by assumption) (d_buildSliceF rfl (by kernel_rfl) rfl rfl rfl rfl rfl) ?_
    | refine c_pickD rfl (by assumption) (d_assignD rfl rfl) ?_
    | refine c_pickD rfl (by assumption) (d_moveD rfl rfl) ?_
    | refine c_pickD rfl (by assumption) (d_loadW rfl rfl rfl (by first | rfl | (simp only [cellsD]; rfl))) ?_
    | refine c_pickD rfl (by assumption) (d_loadBD rfl rfl rfl (by first | rfl | (simp only [cellsD]; rfl))) ?_
    | refine c_pickD rfl (by assumption) (d_bin2B rfl rfl rfl rfl) ?_
    | refine c_pickD rfl (by assumption) (d_pickT rfl rfl (by first | rfl | assumption) rfl) ?_
    | refine c_pickD rfl (by assumption) (d_pickF rfl rfl (by first | rfl | assumption) rfl) ?_
    | refine c_pickD rfl (by assumption) (d_boxW rfl rfl rfl (by first | rfl | (simp only [cellsD]; rfl))) ?_
    | refine c_pickD rfl (by assumption) (d_call rfl (by kernel_rfl) rfl (by first | exact c1 | exact c2 | exact c3 | exact c4 | exact c5 | exact c6 | exact k1 | exact k2 | exact k3 | exact k4 | exact k5 | exact k6 | exact k7 | exact k8 | exact k9 | exact k10)) ?_
    | refine c_pickD rfl (by assumption) (d_lenD rfl rfl) ?_
    | refine c_pickD rfl (by assumption) (d_not rfl rfl) ?_
    | refine c_pickD rfl (by assumption) (d_storeB rfl rfl rfl rfl rfl) ?_
    | refine c_pickD rfl (by assumption) (d_storeW rfl rfl rfl (by first | rfl | (simp only [cellsD]; rfl)) (by first | rfl | (simp only [cellsD]; rfl)) rfl) ?_
    | refine c_pickD rfl (by assumption) (d_alloc rfl rfl) ?_
    | refine c_splitT rfl rfl (fun h => ?_) (fun h => ?_)
    | refine c_splitF rfl rfl (fun h => ?_) (fun h => ?_)
    | fail)
  all_goals exact PLe.refl _
end Go.Proofs.Ytbbacpdbbmjblaa
end
section
namespace Go.Proofs.Ytbbacpdbbmjblaa
open Go.ChangeShapes Go.WideShapes Go.ChangeAt Go.RowKit
theorem trodFloat {H : Type} {enc : TypeId × Value → H} {P : Program} {w : World} {base : Nat} {spare : Nat → Bool} {held : Bool} {fuel : Nat} {t : TypeId} {cs : List Value} {x : DataW H × List MemPlace} {k : FloatKind}
    (ht : P.underlying t = some (.float k)) (h : DataW.trod enc P w base spare held fuel t cs = some x) : ∃ n, cs = [.float k n] ∧ (Lit.float k n).wf = true := by
  cases fuel with
  | zero => simp [DataW.trod] at h
  | succ n =>
    unfold DataW.trod at h
    rw [ht] at h
    split at h <;> simp_all
theorem weights_mem_all {H : Type} {P : Program} {e : TypeId} : ∀ {ds : List (DataW H)} {d : DataW H}, d ∈ ds → ∀ n ∈ d.weights P e, n ∈ DataW.weightsAll P e ds
  | d0 :: ds, d, hd, n, hn => by
    simp only [DataW.weightsAll, List.mem_append]
    rcases List.mem_cons.1 hd with rfl | hd
    · exact .inl hn
    · exact .inr (weights_mem_all hd n hn)
theorem Try.cellsVal : Try.prog.cellsOf 43 = 6 := by kernel_rfl
theorem Try.cellsStr : Try.prog.cellsOf 9 = 1 := by kernel_rfl
theorem Try.cellsInt : Try.prog.cellsOf 3 = 1 := by kernel_rfl
theorem Try.cellsInt64 : Try.prog.cellsOf 2 = 1 := by kernel_rfl
theorem Try.cellsFlt : Try.prog.cellsOf 40 = 1 := by kernel_rfl
theorem Try.cellsStrs : Try.prog.cellsOf 41 = 1 := by kernel_rfl
theorem Try.cellsVals : Try.prog.cellsOf 33 = 1 := by kernel_rfl
theorem Try.bytesVal : Try.prog.bytesOf 43 = 88 := by kernel_rfl
theorem Try.bytesStr : Try.prog.bytesOf 9 = 16 := by kernel_rfl
theorem cells_six {w : World} {base : Nat} {a : Addr} {cs : List Value} (h : w.cells? base a 6 = some cs) :
    ∃ c0 c1 c2 c3 c4 c5, cs = [c0, c1, c2, c3, c4, c5] ∧ w.cell? a = some c0 ∧ w.cell? (a.add 1) = some c1 ∧ w.cell? (a.add 2) = some c2 ∧ w.cell? (a.add 3) = some c3 ∧ w.cell? (a.add 4) = some c4 ∧ w.cell? (a.add 5) = some c5 := by
  unfold World.cells? at h
  split at h
  · simp only [List.range, List.range.loop, List.mapM_cons, List.mapM_nil] at h
    simp only [Option.bind_eq_bind, Option.bind_eq_some_iff, Option.pure_def, Option.some.injEq] at h
    obtain ⟨c0, h0, l1, ⟨c1, h1, l2, ⟨c2, h2, l3, ⟨c3, h3, l4, ⟨c4, h4, l5, ⟨c5, h5, l6, e6, e5⟩, e4⟩, e3⟩, e2⟩, e1⟩, e0⟩ := h
    subst e6 e5 e4 e3 e2 e1 e0
    exact ⟨c0, c1, c2, c3, c4, c5, rfl, by simpa [Addr.add] using h0, h1, h2, h3, h4, h5⟩
  · simp at h
theorem isVs_of {w : World} {S : Nat → Prop} {b : Nat} : ∀ (n o : Nat), (∀ i, i < n → ∃ x c0 c1 c2 c3 c4 c5, w.cell? ⟨b, o + i * 6, none⟩ = some c0 ∧ w.cell? ⟨b, o + i * 6 + 1, none⟩ = some c1 ∧ w.cell? ⟨b, o + i * 6 + 2, none⟩ = some c2 ∧
      w.cell? ⟨b, o + i * 6 + 3, none⟩ = some c3 ∧ w.cell? ⟨b, o + i * 6 + 4, none⟩ = some c4 ∧ w.cell? ⟨b, o + i * 6 + 5, none⟩ = some c5 ∧ IsV w S x (.agg #[c0, c1, c2, c3, c4, c5])) → ∃ l : List GV, l.length = n ∧ IsVs w S l b o
  | 0, _, _ => ⟨[], rfl, by simp [IsVs]⟩
  | n + 1, o, h => by
    obtain ⟨x, c0, c1, c2, c3, c4, c5, h0⟩ := h 0 (Nat.succ_pos _)
    obtain ⟨l, hl, hv⟩ := isVs_of (w := w) (S := S) (b := b) n (o + 6) (fun i hi => by
      have := h (i + 1) (by omega)
      rwa [show o + (i + 1) * 6 = o + 6 + i * 6 by omega] at this)
    refine ⟨x :: l, by simp [hl], ?_⟩
    unfold IsVs
    exact ⟨⟨c0, c1, c2, c3, c4, c5, by simpa using h0⟩, hv⟩
theorem isStrs_of_trod {H : Type} {enc : TypeId × Value → H} {w : World} {fuel : Nat} {cs : List Value} {d : DataW H} {ps : List MemPlace}
    (h : DataW.trod enc Try.prog w 0 (fun _ => true) true fuel 41 cs = some (d, ps)) (hw : ∀ n ∈ d.weights Try.prog 41, n ≤ reachBytes) :
    ∃ v ks, cs = [v] ∧ IsStrs w (Btw 0 w.heap.size) v ks := by
  rcases open_strings Try.underlying41 Try.underlying9 Try.cellsStr h with ⟨rfl, hx⟩ | ⟨a, len, cap, ss, rfl, _, hl, hm, hz, hx, hcell, hws⟩
  · exact ⟨_, [], rfl, none, 0, rfl, Nat.le_refl _, by decide, by simp, fun h => by simp at h⟩
  · simp only [if_true] at hz
    simp only [Prod.mk.injEq] at hx
    obtain ⟨rfl, rfl⟩ := hx
    have hlen : (ss.take len).length = len := by simp; omega
    have hsz := hw (((strs (H := H) (ss.take len)).length + (strs (H := H) (ss.drop len)).length) * Try.prog.bytesOf 9) (by simp [DataW.weights, Try.underlying41])
    rw [Try.bytesStr] at hsz
    simp only [strs, List.length_map, List.length_take, List.length_drop, reachBytes] at hsz
    refine ⟨_, ss.take len, rfl, some a, cap, by rw [hlen], by rw [hlen]; exact hl, by rw [hlen]; omega, fun s hs => hws s (List.mem_of_mem_take hs), fun hp => ?_⟩
    rw [hlen] at hp
    have h0 := hcell 0 (by omega)
    have hspot : a.spot = none := by simpa [Addr.add] using World.cell?_spot h0
    obtain ⟨b, o, sp⟩ := a
    subst hspot
    refine ⟨b, o, ⟨Nat.zero_le _, by have := World.block_lt_of_cell? w _ h0; simpa [Addr.add] using this⟩, rfl, fun i hi => ?_⟩
    rw [hlen] at hi
    have := hcell i (by omega)
    rw [add_plain] at this
    rw [this]
    simp [List.getD, hi]
set_option maxRecDepth 100000 in
set_option maxHeartbeats 1000000 in
theorem isV_of_trod {H : Type} {enc : TypeId × Value → H} {w : World} (fuel : Nat) {cs : List Value} {d : DataW H} {ps : List MemPlace}
    (h : DataW.trod enc Try.prog w 0 (fun _ => true) true fuel 43 cs = some (d, ps)) (hw : ∀ n ∈ d.weights Try.prog 43, n ≤ reachBytes) :
    ∃ x c0 c1 c2 c3 c4 c5, cs = [c0, c1, c2, c3, c4, c5] ∧ IsV w (Btw 0 w.heap.size) x (.agg #[c0, c1, c2, c3, c4, c5]) := by
  obtain ⟨xs, n, rfl, hx, hl, hlen, hf⟩ := DataW.trod_struct Try.underlying43 h
  rw [Try.cellsVal] at hl
  match cs, hl with
  | [c0, c1, c2, c3, c4, c5], _ =>
  match xs, hlen with
  | [y0, y1, y2, y3, y4, y5], _ =>
  have h0 : DataW.trod enc Try.prog w 0 (fun _ => true) true n 3 (([c0, c1, c2, c3, c4, c5].drop 0).take (Try.prog.cellsOf 3)) = some y0 := (by have g := hf 0 _ rfl; exact g)
  have h1 : DataW.trod enc Try.prog w 0 (fun _ => true) true n 2 (([c0, c1, c2, c3, c4, c5].drop 1).take (Try.prog.cellsOf 2)) = some y1 := (by have g := hf 1 _ rfl; exact g)
  have h2 : DataW.trod enc Try.prog w 0 (fun _ => true) true n 40 (([c0, c1, c2, c3, c4, c5].drop 2).take (Try.prog.cellsOf 40)) = some y2 := (by have g := hf 2 _ rfl; exact g)
  have h3 : DataW.trod enc Try.prog w 0 (fun _ => true) true n 9 (([c0, c1, c2, c3, c4, c5].drop 3).take (Try.prog.cellsOf 9)) = some y3 := (by have g := hf 3 _ rfl; exact g)
  have h4 : DataW.trod enc Try.prog w 0 (fun _ => true) true n 41 (([c0, c1, c2, c3, c4, c5].drop 4).take (Try.prog.cellsOf 41)) = some y4 := (by have g := hf 4 _ rfl; exact g)
  have h5 : DataW.trod enc Try.prog w 0 (fun _ => true) true n 33 (([c0, c1, c2, c3, c4, c5].drop 5).take (Try.prog.cellsOf 33)) = some y5 := (by have g := hf 5 _ rfl; exact g)
  clear hf h
  simp only [Try.cellsInt, Try.cellsInt64, Try.cellsFlt, Try.cellsStr, Try.cellsStrs, Try.cellsVals, List.drop_zero, List.drop_succ_cons, List.take_succ_cons, List.take_zero] at h0 h1 h2 h3 h4 h5
  simp only [Prod.mk.injEq] at hx
  obtain ⟨rfl, rfl⟩ := hx
  obtain ⟨k, e0, -, w0⟩ := DataW.trod_int Try.underlying3 h0
  obtain ⟨m, e1, -, w1⟩ := DataW.trod_int Try.underlying2 h1
  obtain ⟨f, e2, w2⟩ := trodFloat Try.underlying40 h2
  obtain ⟨s, e3, -, w3⟩ := DataW.trod_string Try.underlying9 h3
  simp only [DataW.weights, Try.underlying43, List.map_cons, List.map_nil, DataW.weightsEach, List.mem_append, List.append_nil] at hw
  obtain ⟨v4, ks, e4, hks⟩ := isStrs_of_trod (d := y4.1) (ps := y4.2) h4 (fun n hn => hw n (by simp [hn]))
  simp only [List.cons.injEq, and_true] at e0 e1 e2 e3 e4
  subst e0 e1 e2 e3 e4
  have hw5 : ∀ n ∈ y5.1.weights Try.prog 33, n ≤ reachBytes := fun n hn => hw n (by simp [hn])
  clear h0 h1 h2 h3 h4 hw
  rcases DataW.trod_slice Try.underlying33 h5 with ⟨e5, -⟩ | ⟨a, len, cap, elems, rest, n', hn', e5, hx5, _, hlc, hm, hlen5, hel, _, _⟩
  · simp only [List.cons.injEq, and_true] at e5
    subst e5
    refine ⟨.mk k m f s ks [], _, _, _, _, _, _, rfl, ?_⟩
    unfold IsV
    exact ⟨_, none, 0, rfl, w0, w1, w2, w3, hks, Nat.le_refl _, by decide, .inl rfl⟩
  · simp only [List.cons.injEq, and_true] at e5
    subst e5
    rw [hx5] at hw5
    simp only [DataW.weights, Try.underlying33, Try.bytesVal, List.length_map] at hw5
    have hsz := hw5 ((elems.length + rest.length) * 88) (by simp)
    simp only [reachBytes] at hsz
    rw [Try.cellsVal] at hel
    have key : ∀ i, i < len → ∃ x c0 c1 c2 c3 c4 c5, w.cell? (a.add (i * 6)) = some c0 ∧ w.cell? ((a.add (i * 6)).add 1) = some c1 ∧ w.cell? ((a.add (i * 6)).add 2) = some c2 ∧
        w.cell? ((a.add (i * 6)).add 3) = some c3 ∧ w.cell? ((a.add (i * 6)).add 4) = some c4 ∧ w.cell? ((a.add (i * 6)).add 5) = some c5 ∧ IsV w (Btw 0 w.heap.size) x (.agg #[c0, c1, c2, c3, c4, c5]) := by
      intro i hi
      have hb := hel i hi
      obtain ⟨y, hy⟩ : ∃ y, elems[i]? = some y := ⟨elems[i], by simp [hlen5, hi]⟩
      rw [hy, Option.bind_eq_some_iff] at hb
      obtain ⟨cs', hcs, hb⟩ := hb
      obtain ⟨x, c0, c1, c2, c3, c4, c5, rfl, hv⟩ := isV_of_trod n' (d := y.1) (ps := y.2) hb (fun q hq => hw5 q (by
        simp only [List.mem_cons, List.mem_append]
        exact .inr (.inl (weights_mem_all (List.mem_map_of_mem (List.mem_of_getElem? hy)) q hq))))
      obtain ⟨d0, d1, d2, d3, d4, d5, e, g⟩ := cells_six hcs
      simp only [List.cons.injEq, and_true] at e
      obtain ⟨rfl, rfl, rfl, rfl, rfl, rfl⟩ := e
      exact ⟨x, _, _, _, _, _, _, g.1, g.2.1, g.2.2.1, g.2.2.2.1, g.2.2.2.2.1, g.2.2.2.2.2, hv⟩
    by_cases hl0 : len = 0
    · subst hl0
      refine ⟨.mk k m f s ks [], _, _, _, _, _, _, rfl, ?_⟩
      unfold IsV
      exact ⟨_, some a, cap, rfl, w0, w1, w2, w3, hks, Nat.zero_le _, by decide, .inl rfl⟩
    · obtain ⟨_, _, _, _, _, _, _, g0, _⟩ := key 0 (by omega)
      have hspot : a.spot = none := by simpa [Addr.add] using World.cell?_spot g0
      have hlt := World.block_lt_of_cell? w _ g0
      obtain ⟨b, o, sp⟩ := a
      subst hspot
      simp only [add_plain] at key
      obtain ⟨l, hll, hvs⟩ := isVs_of (b := b) len o key
      refine ⟨.mk k m f s ks l, _, _, _, _, _, _, rfl, ?_⟩
      unfold IsV
      exact ⟨_, _, cap, by rw [hll], w0, w1, w2, w3, hks, by omega, by omega, .inr ⟨b, o, ⟨Nat.zero_le _, by simpa [Addr.add] using hlt⟩, rfl, hvs⟩⟩
termination_by fuel
decreasing_by omega
set_option maxRecDepth 100000 in
/-- An argument of type impl.Value. -/
theorem isV_of_arg {H : Type} {enc : TypeId × Value → H} {w : World} {v : Value} {d : DataW H} {ps : List MemPlace} {base : Nat} (hv : Value.okWide Try.prog w .any base 43 v)
    (h : DataW.Trod enc Try.prog w 0 (fun _ => true) true 43 v d ps) (hw : ∀ n ∈ d.weights Try.prog 43, n ≤ reachBytes) : ∃ x, IsV w (Btw 0 w.heap.size) x v := by
  obtain ⟨cs, rfl, _⟩ := okWide_struct Try.underlying43 hv
  obtain ⟨fuel, hf⟩ := h
  obtain ⟨x, c0, c1, c2, c3, c4, c5, e, hx⟩ := isV_of_trod fuel hf hw
  have : cs = #[c0, c1, c2, c3, c4, c5] := by
    have e' : cs.toList = [c0, c1, c2, c3, c4, c5] := e
    rw [← Array.toArray_toList (xs := cs), e']
  subst this
  exact ⟨x, hx⟩
end Go.Proofs.Ytbbacpdbbmjblaa
end
section
namespace Go.Proofs.Ytbbacpdbbmjblaa
open Go.ChangeShapes Go.WideShapes Go.ChangeAt Go.RowKit
set_option linter.unusedSimpArgs false
section
variable {H : Type} {enc : TypeId × Value → H} {w : World} {F : Nat → Prop}
theorem repAgg {l : List PD} {cs : List Value} : Rep w F (.agg l) (.agg cs.toArray) ↔ Reps w F l cs ∧ ∀ u ∈ cs, u.oneCell' = true := by
  unfold Rep
  constructor
  · rintro ⟨vs, e, h1, h2⟩
    simp only [Value.agg.injEq] at e
    have : cs = vs := by simpa using congrArg Array.toList e
    subst this
    exact ⟨h1, h2⟩
  · rintro ⟨h1, h2⟩
    exact ⟨cs, rfl, h1, h2⟩
theorem repL_of {α : Type} {pd : α → PD} {n b : Nat} : ∀ (m o : Nat), (∀ i, i < m → ∃ x cs, cs.length = n ∧ (∀ u ∈ cs, u.oneCell' = true) ∧ Lies w b (o + i * n) cs ∧ Rep w F (pd x) (.agg cs.toArray)) → ∃ l : List α, l.length = m ∧ RepL w F n (l.map pd) b o
  | 0, _, _ => ⟨[], rfl, by simp [RepL]⟩
  | m + 1, o, h => by
    obtain ⟨x, cs, h1, h2, h3, h4⟩ := h 0 (Nat.succ_pos _)
    obtain ⟨l, hl, hr⟩ := repL_of (pd := pd) (n := n) (b := b) m (o + n) (fun i hi => by
      obtain ⟨x, cs, g1, g2, g3, g4⟩ := h (i + 1) (by omega)
      exact ⟨x, cs, g1, g2, by rwa [show o + (i + 1) * n = o + n + i * n by rw [Nat.succ_mul]; omega] at g3, g4⟩)
    refine ⟨x :: l, by simp [hl], ?_⟩
    rw [List.map_cons]
    unfold RepL
    exact ⟨⟨_, h4, by simpa [Value.cells] using h1, by simpa [Value.cells] using h2, by simpa [Value.cells] using h3⟩, hr⟩
theorem slice_of_trod {α : Type} (pd : α → PD) (hpd : ∀ x, ∃ l, pd x = .agg l) {t e n y : Nat} (ht : Try.prog.underlying t = some (.slice e)) (hn : Try.prog.cellsOf e = n) (hn0 : 0 < n) (hy : Try.prog.bytesOf e = y) (hy0 : 0 < y) {fuel : Nat} {cs : List Value} {d : DataW H} {ps : List MemPlace}
    (h : DataW.trod enc Try.prog w 0 (fun _ => true) true fuel t cs = some (d, ps)) (hw : ∀ k ∈ d.weights Try.prog t, k ≤ reachBytes)
    (hi : ∀ fuel' cs' d' ps', fuel' < fuel → DataW.trod enc Try.prog w 0 (fun _ => true) true fuel' e cs' = some (d', ps') → (∀ k ∈ d'.weights Try.prog e, k ≤ reachBytes) → ∃ x, Rep w (Btw 0 w.heap.size) (pd x) (.agg cs'.toArray)) :
    ∃ (l : List α) (v : Value), cs = [v] ∧ Rep w (Btw 0 w.heap.size) (.sl n y (l.map pd)) v := by
  rcases DataW.trod_slice ht h with ⟨e5, -⟩ | ⟨a, len, cap, elems, rest, n', hn', e5, hx5, _, hlc, hm, hlen5, hel, _, _⟩
  · refine ⟨[], _, e5, ?_⟩
    unfold Rep
    exact ⟨none, 0, rfl, Nat.le_refl _, by simp, by simp, .inl rfl⟩
  · obtain ⟨rfl, _⟩ : d = _ ∧ ps = _ := by simpa only [Prod.mk.injEq] using hx5
    simp only [DataW.weights, ht, hy, List.length_map] at hw
    have hsz := hw ((elems.length + rest.length) * y) (by simp)
    simp only [reachBytes] at hsz
    rw [hn] at hel
    have key : ∀ i, i < len → ∃ (x : α) (cs' : List Value), cs'.length = n ∧ (∀ j, j < n → w.cell? ((a.add (i * n)).add j) = cs'[j]?) ∧ Rep w (Btw 0 w.heap.size) (pd x) (.agg cs'.toArray) := by
      intro i hi'
      have hb := hel i hi'
      obtain ⟨z, hz⟩ : ∃ z, elems[i]? = some z := ⟨elems[i], by simp [hlen5, hi']⟩
      rw [hz, Option.bind_eq_some_iff] at hb
      obtain ⟨cs', hcs, hb⟩ := hb
      obtain ⟨x, hx⟩ := hi n' cs' z.1 z.2 (by omega) hb (fun q hq => hw q (by
        simp only [List.mem_cons, List.mem_append]
        exact .inr (.inl (weights_mem_all (List.mem_map_of_mem (List.mem_of_getElem? hz)) q hq))))
      obtain ⟨_, h1, h2⟩ := World.cells?_some hcs
      exact ⟨x, cs', h1, h2, hx⟩
    have hlenB : len * y ≤ 140737488351232 := by
      have : len * y ≤ (elems.length + rest.length) * y := Nat.mul_le_mul_right _ (by omega)
      omega
    have hlenS : len ≤ 140737488351232 := Nat.le_trans (Nat.le_mul_of_pos_right _ hy0) hlenB
    by_cases hl0 : len = 0
    · subst hl0
      refine ⟨[], _, e5, ?_⟩
      unfold Rep
      exact ⟨some a, cap, rfl, Nat.zero_le _, by simp, by simp, .inl rfl⟩
    · obtain ⟨x0, cs0, g1, g2, g3⟩ := key 0 (by omega)
      have g0 : ∃ u, w.cell? ((a.add (0 * n)).add 0) = some u := ⟨cs0[0]'(by omega), by rw [g2 0 hn0]; simp⟩
      obtain ⟨u0, g0⟩ := g0
      have hspot : a.spot = none := by simpa [Addr.add] using World.cell?_spot g0
      have hlt := World.block_lt_of_cell? w _ g0
      obtain ⟨b, o, sp⟩ := a
      subst hspot
      simp only [add_plain] at key hlt
      obtain ⟨l, hll, hvs⟩ := repL_of (pd := pd) (n := n) (b := b) (F := Btw 0 w.heap.size) (w := w) len o (fun i hi' => by
        obtain ⟨x, cs', k1, k2, k3⟩ := key i hi'
        obtain ⟨q, hq⟩ := hpd x
        refine ⟨x, cs', k1, ?_, fun j u hj => ?_, k3⟩
        · rw [hq] at k3
          exact (repAgg.1 k3).2
        · rw [k2 j (by have := (List.getElem?_eq_some_iff.1 hj).1; omega)]
          exact hj)
      refine ⟨l, _, e5, ?_⟩
      unfold Rep
      rw [List.length_map]
      exact ⟨_, cap, by rw [hll], by omega, by rw [hll]; exact hlenB, by rw [hll]; exact hlenS, .inr ⟨b, o, ⟨Nat.zero_le _, by simpa using hlt⟩, rfl, hvs⟩⟩
end
section
variable {H : Type} {enc : TypeId × Value → H} {w : World}
set_option maxRecDepth 100000
set_option maxHeartbeats 2000000
end
end Go.Proofs.Ytbbacpdbbmjblaa
end
section
namespace Go.Proofs.Ytbbacpdbbmjblaa
open Go.ChangeShapes Go.WideShapes Go.ChangeAt Go.RowKit
section
variable {H : Type} {enc : TypeId × Value → H} {w : World}
set_option maxRecDepth 100000
set_option maxHeartbeats 2000000
theorem openLV (fuel : Nat) {cs : List Value} {d : DataW H} {ps : List MemPlace} (h : DataW.trod enc Try.prog w 0 (fun _ => true) true fuel 33 cs = some (d, ps)) (hw : ∀ k ∈ d.weights Try.prog 33, k ≤ reachBytes) : ∃ (l : List GV) (v : Value), cs = [v] ∧ Rep w (Btw 0 w.heap.size) (.sl 6 88 (pdVs l)) v := by
  obtain ⟨s, v, e, r⟩ := slice_of_trod pdV (fun x => ⟨_, pdV_eq x⟩) Try.underlying33 Try.cellsVal (by omega) Try.bytesVal (by omega) h hw (fun f' cs' d' ps' hlt h' hw' => by
    obtain ⟨x, c0, c1, c2, c3, c4, c5, e, hx⟩ := isV_of_trod f' h' hw'
    subst e
    exact ⟨x, isV_rep x hx⟩)
  exact ⟨s, v, e, by rw [pdVs_eq]; exact r⟩
end
end Go.Proofs.Ytbbacpdbbmjblaa
end
