/- Part 9 of what the proof rests on. -/
import Derived.Test.YtbbacpdbbmjblaaGreatFeD5
import Derived.Test.YtbbacpdbbmjblaaGreatFeD7
import Derived.Test.YtbbacpdbbmjblaaGreatFeD8
section
set_option linter.unusedVariables false
namespace Go.Proofs.YtbbacpdbbmjblaaGreat
open Go.RowKit
set_option linter.unusedSimpArgs false
/-- One field of the other map. -/
def eqG (m : List (ByteArray × JV)) (y : ByteArray × JV) : Bool := match lkJ m y.1 with | some x => eqJ x y.2 | none => false
theorem eqJm_all (m : List (ByteArray × JV)) : ∀ q : List (ByteArray × JV), eqJm m q = q.all (eqG m)
  | [] => by unfold eqJm; rfl
  | y :: q => by unfold eqJm; rw [eqJm_all m q, List.all_cons]; rfl
theorem eqClo_c (m : List (ByteArray × JV)) (y : ByteArray × JV) (hE : ∀ x, lkJ m y.1 = some x → PCall Tryz.prog 132 [dvA, dvV x, dvV y.2] (.val (.bool (eqJ x y.2)))) :
    ACall1 Tryz.prog 217 [.dat (.val (.string y.1)), .iface 149 (.ptr 1004 0), .ptr 1000 0, .ptr 1001 0, .ptr 1002 0]
    [(1000, .box 246 [.dat (dvMm m)]), (1001, .box 184 [.dat dvA]), (1002, .box 149 [.ptr 1003 0]), (1003, .box 177 [.any]), (1004, .box 177 [.dat (pdJ y.2)])]
    (.dat (.val (.bool (eqG m y))))
    [(1000, .box 246 [.dat (dvMm m)]), (1001, .box 184 [.dat dvA]), (1002, .box 149 [.ptr 1003 0]), (1003, .box 177 [.any]), (1004, .box 177 [.dat (pdJ y.2)])] := by
  refine acall_of_run Tryz.func217 rfl Tryz.ntmps217 rfl (fun X => ?_)
  cases hlk : lkJ m y.1 with
  | none =>
    have e : eqG m y = false := by unfold eqG; rw [hlk]
    rw [e]
    have hq : (!false) = true := rfl
    repeat' (first
    | refine run_seq ?_
    | (refine k_pick rfl ?_; first | refine k_assignD rfl rfl ?_ | refine k_moveD rfl rfl ?_ | refine k_loadBD rfl rfl rfl (by first | rfl | (simp only [cellsD]; rfl)) ?_ | refine k_extract rfl rfl rfl ?_ | refine k_not rfl rfl ?_ | refine k_lookM rfl rfl rfl (by assumption) ?_)
    | refine run_opsEnd ?_
    | refine run_region ?_
    | refine run_condT rfl (by first | rfl | assumption) ?_
    | fail)
    refine run_retA () id (tm := [(7, .dat (.val (.bool false)))]) ?_ (resA_tmp rfl rfl)
    (refine ⟨?_, ?_, by rfl⟩ <;> repeat' (first | exact trivial | exact ALe.ptr rfl | exact ALe.own rfl | exact ALe.elt rfl | exact BLe.boxD _ _ | exact BLe.row rfl | exact BLe.res | exact BLe.dead rfl | exact ALe.dat (PLe.refl _) | exact CLe.nil | refine And.intro ?_ ?_ | refine ALe.iface ?_ | refine ALe.clo ?_ | refine CLe.cons ?_ ?_ | refine BLe.box ?_ | refine BLe.row ?_ | exact ALe.any _ | refine ALe.dat (PLe.of_eq ?_)))
  | some x =>
    have hC := hE x hlk
    have e : eqG m y = eqJ x y.2 := by unfold eqG; rw [hlk]
    rw [e]
    repeat' (first
    | refine run_seq ?_
    | (refine k_pick rfl ?_; first | refine k_assignD rfl rfl ?_ | refine k_moveD rfl rfl ?_ | refine k_loadBD rfl rfl rfl (by first | rfl | (simp only [cellsD]; rfl)) ?_ | refine k_extract rfl rfl rfl ?_ | refine k_not rfl rfl ?_ | refine k_lookM rfl rfl rfl (by assumption) ?_)
    | refine run_opsEnd ?_
    | refine run_region ?_
    | refine run_condF rfl (by first | rfl | assumption) ?_
    | refine run_skip ?_
    | refine run_drawC (by kernel_rfl) ?_
    | refine c_nil (And.intro (by kernel_rfl) ?_)
    | refine c_pick (d_assignD rfl rfl) ?_
    | refine c_pick (d_moveD rfl rfl) ?_
    | refine c_pick (d_loadBD rfl rfl rfl (by first | rfl | (simp only [cellsD]; rfl))) ?_
    | refine c_pick (d_loadBP rfl rfl rfl rfl) ?_
    | refine c_pick (d_acallB (thk [(1000, _)] 200) rfl (by kernel_rfl) ((reuse_c .any _)) rfl rfl rfl rfl rfl) ?_
    | refine c_pick (d_moveI rfl rfl) ?_
    | refine c_pick (d_callZ gV rfl (by kernel_rfl) rfl (by first | exact hC) Flat.val) ?_
    | fail)
    refine run_retA () id (tm := [(7, .dat (.val (.bool (eqJ x y.2))))]) ?_ (resA_tmp rfl rfl)
    (refine ⟨?_, ?_, by rfl⟩ <;> repeat' (first | exact trivial | exact ALe.ptr rfl | exact ALe.own rfl | exact ALe.elt rfl | exact BLe.boxD _ _ | exact BLe.row rfl | exact BLe.res | exact BLe.dead rfl | exact ALe.dat (PLe.refl _) | exact CLe.nil | refine And.intro ?_ ?_ | refine ALe.iface ?_ | refine ALe.clo ?_ | refine CLe.cons ?_ ?_ | refine BLe.box ?_ | refine BLe.row ?_ | exact ALe.any _ | refine ALe.dat (PLe.of_eq ?_)))
set_option maxHeartbeats 4000000 in
theorem eqIter_c (m q : List (ByteArray × JV)) (hE : ∀ y ∈ q, ∀ x, lkJ m y.1 = some x → PCall Tryz.prog 132 [dvA, dvV x, dvV y.2] (.val (.bool (eqJ x y.2)))) :
    ACall1 Tryz.prog 212 [.dat (dvMm q), .dat dvA, .clo 217 [.ptr 1000 0, .ptr 1001 0, .ptr 1002 0]]
    [(1000, .box 246 [.dat (dvMm m)]), (1001, .box 184 [.dat dvA]), (1002, .box 149 [.ptr 1003 0]), (1003, .box 177 [.dat (.val .nilIface)])]
    (.dat (.val (.bool (q.all (eqG m)))))
    [(1000, .box 246 [.dat (dvMm m)]), (1001, .box 184 [.dat dvA]), (1002, .box 149 [.ptr 1003 0]), (1003, .box 177 [.any])] := by
  refine acall_of_run Tryz.func212 rfl Tryz.ntmps212 rfl (fun X => ?_)
  by_cases hn : q = []
  · subst hn
    have hq : decide (((([] : List (ByteArray × JV)).length : Nat) : Int) = 0) = true := rfl
    repeat' (first
    | refine run_seq ?_
    | (refine k_pick rfl ?_; first | refine k_assignD rfl rfl ?_ | refine k_moveD rfl rfl ?_ | refine k_bin2B rfl rfl rfl rfl ?_ | refine k_lenM rfl rfl ?_)
    | refine run_opsEnd ?_
    | refine run_region ?_
    | refine run_condT rfl (by first | rfl | assumption) ?_
    | fail)
    refine run_retA () id (tm := [(6, .dat (.val (.bool true)))]) ?_ (resA_tmp rfl rfl)
    (refine ⟨?_, ?_, by rfl⟩ <;> repeat' (first | exact trivial | exact ALe.ptr rfl | exact ALe.own rfl | exact ALe.elt rfl | exact BLe.boxD _ _ | exact BLe.row rfl | exact BLe.res | exact BLe.dead rfl | exact ALe.dat (PLe.refl _) | exact CLe.nil | refine And.intro ?_ ?_ | refine ALe.iface ?_ | refine ALe.clo ?_ | refine CLe.cons ?_ ?_ | refine BLe.box ?_ | refine BLe.row ?_ | exact ALe.any _ | refine ALe.dat (PLe.of_eq ?_)))
  · have hq : decide (((q.length : Nat) : Int) = 0) = false := by
      cases q with
      | nil => exact absurd rfl hn
      | cons x r => simp; omega
    repeat' (first
    | refine run_seq ?_
    | (refine k_pick rfl ?_; first | refine k_rangeM rfl rfl rfl ?_ | refine k_assignD rfl rfl ?_ | refine k_moveD rfl rfl ?_ | refine k_bin2B rfl rfl rfl rfl ?_ | refine k_assignP rfl rfl ?_ | refine k_moveP rfl rfl ?_ | refine k_invAS1 (thk [] 200) rfl rfl (by kernel_rfl) (alloc_c) rfl trivial rfl (freshB_ok rfl) rfl ?_ | refine k_nilI rfl rfl ?_ | refine k_ifaceP rfl rfl (by kernel_rfl) ?_ | refine k_lenM rfl rfl ?_ | refine k_deferA rfl free_idle ?_)
    | refine run_opsEnd ?_
    | refine run_region ?_
    | refine run_condF rfl (by first | rfl | assumption) ?_
    | refine run_block ?_
    | refine run_skip ?_
    | fail)
    refine run_loopS (ι := { done : List (ByteArray × JV) // (done.map (·.1)).Nodup ∧ (∀ y ∈ done, y ∈ q) ∧ ∀ y ∈ done, eqG m y = true })
      (fun k => [(2, .clo 217 [.ptr 1000 0, .ptr 1001 0, .ptr 1002 0]), (7, .ptr 200 0), (20, .own 20)])
      (fun k => [(20, .res (itR q k.1)), (200, .box 177 [.any]), (1000, .box 246 [.dat (dvMm m)]), (1001, .box 184 [.dat dvA]), (1002, .box 149 [.ptr 1003 0]), (1003, .box 177 [.any])])
      (fun k => q.length - k.1.length) ⟨[], by simp, by simp, by simp⟩ id ?_ ?_
    · (refine ⟨?_, ?_, by rfl⟩ <;> repeat' (first | exact trivial | exact ALe.ptr rfl | exact ALe.own rfl | exact ALe.elt rfl | exact BLe.boxD _ _ | exact BLe.row rfl | exact BLe.res | exact BLe.dead rfl | exact ALe.dat (PLe.refl _) | exact CLe.nil | refine And.intro ?_ ?_ | refine ALe.iface ?_ | refine ALe.clo ?_ | refine CLe.cons ?_ ?_ | refine BLe.box ?_ | refine BLe.row ?_ | exact ALe.any _ | refine ALe.dat (PLe.of_eq ?_)))
    rintro ⟨done, hnd, hsub, hall⟩
    repeat' (first
    | refine run_seq ?_
    | refine run_region ?_
    | fail)
    refine k_pick rfl (k_nextM rfl rfl rfl (fun hev => ?_) (fun y hy hny => ?_))
    · have e : q.all (eqG m) = true := List.all_eq_true.2 fun y hy => hall y (hev y hy)
      rw [e]
      repeat' (first
    | refine run_seq ?_
    | (refine k_pick rfl ?_; first | refine k_assignD rfl rfl ?_ | refine k_extract rfl rfl rfl ?_)
    | refine run_opsEnd ?_
    | refine run_region ?_
    | refine run_condF rfl (by first | rfl | assumption) ?_
    | refine run_exit rfl ?_
    | fail)
      refine run_retA () id (tm := [(6, .dat (.val (.bool true)))]) ?_ (resA_tmp rfl rfl)
      (refine ⟨?_, ?_, by rfl⟩ <;> repeat' (first | exact trivial | exact ALe.ptr rfl | exact ALe.own rfl | exact ALe.elt rfl | exact BLe.boxD _ _ | exact BLe.row rfl | exact BLe.res | exact BLe.dead rfl | exact ALe.dat (PLe.refl _) | exact CLe.nil | refine And.intro ?_ ?_ | refine ALe.iface ?_ | refine ALe.clo ?_ | refine CLe.cons ?_ ?_ | refine BLe.box ?_ | refine BLe.row ?_ | exact ALe.any _ | refine ALe.dat (PLe.of_eq ?_)))
    · have hC := eqClo_c m y (hE y hy)
      cases hr : eqG m y with
      | true =>
        rw [hr] at hC
        repeat' (first
    | refine run_seq ?_
    | (refine k_pick rfl ?_; first | refine k_entryM rfl rfl rfl ?_ | refine k_assignD rfl rfl ?_ | refine k_moveD rfl rfl ?_ | refine k_extract rfl rfl rfl ?_ | refine k_not rfl rfl ?_ | refine k_moveP rfl rfl ?_ | refine k_acall1 (thk [(1000, _)] 200) rfl (by kernel_rfl) (reuse_c .any _) rfl ⟨rfl, trivial⟩ rfl (freshB_ok rfl) rfl ?_ | refine k_cloA1 (thk [(1000, _), (1001, _), (1002, _), (1003, _), (1004, _)] 200) rfl rfl (by kernel_rfl) (hC) rfl ⟨rfl, ⟨rfl, ⟨rfl, ⟨rfl, ⟨rfl, trivial⟩⟩⟩⟩⟩ rfl (freshB_ok rfl) rfl ?_ | refine k_moveC rfl rfl ?_)
    | refine run_opsEnd ?_
    | refine run_region ?_
    | refine run_condT rfl (by first | rfl | assumption) ?_
    | refine run_condF rfl (by first | rfl | assumption) ?_
    | refine run_block ?_
    | refine run_blkEnd ?_
    | refine run_skip ?_
    | fail)
        refine run_again ?_
        refine ⟨⟨done ++ [y], ?_, ?_, ?_⟩, id, ?_, ?_⟩
        · rw [List.map_append, List.nodup_append]
          exact ⟨hnd, by simp, fun a ha b hb => by simp at hb; subst hb; exact fun e => hny (e ▸ ha)⟩
        · intro z hz
          rcases List.mem_append.1 hz with hz | hz
          · exact hsub z hz
          · simp at hz; rw [hz]; exact hy
        · intro z hz
          rcases List.mem_append.1 hz with hz | hz
          · exact hall z hz
          · simp at hz; rw [hz]; exact hr
        · have h1 : (done ++ [y]).length ≤ q.length := by
            have := nodup_len (a := (done ++ [y]).map (·.1)) (l := q.map (·.1)) (by
              rw [List.map_append, List.nodup_append]
              exact ⟨hnd, by simp, fun a ha b hb => by simp at hb; subst hb; exact fun e => hny (e ▸ ha)⟩) (fun x hx => by
              obtain ⟨z, hz, rfl⟩ := List.mem_map.1 hx
              rcases List.mem_append.1 hz with hz | hz
              · exact List.mem_map_of_mem (hsub z hz)
              · simp at hz; rw [hz]; exact List.mem_map_of_mem hy)
            simpa using this
          simp only [List.length_append, List.length_cons, List.length_nil] at h1 ⊢
          omega
        (refine ⟨?_, ?_, by rfl⟩ <;> repeat' (first | exact trivial | exact ALe.ptr rfl | exact ALe.own rfl | exact ALe.elt rfl | exact BLe.boxD _ _ | exact BLe.row rfl | exact BLe.res | exact BLe.dead rfl | exact ALe.dat (PLe.refl _) | exact CLe.nil | refine And.intro ?_ ?_ | refine ALe.iface ?_ | refine ALe.clo ?_ | refine CLe.cons ?_ ?_ | refine BLe.box ?_ | refine BLe.row ?_ | exact ALe.any _ | refine ALe.dat (PLe.of_eq ?_)))
      | false =>
        rw [hr] at hC
        have e : q.all (eqG m) = false := by
          cases h : q.all (eqG m) with
          | false => rfl
          | true => rw [List.all_eq_true.1 h y hy] at hr; cases hr
        rw [e]
        repeat' (first
    | refine run_seq ?_
    | (refine k_pick rfl ?_; first | refine k_entryM rfl rfl rfl ?_ | refine k_assignD rfl rfl ?_ | refine k_moveD rfl rfl ?_ | refine k_extract rfl rfl rfl ?_ | refine k_not rfl rfl ?_ | refine k_moveP rfl rfl ?_ | refine k_acall1 (thk [(1000, _)] 200) rfl (by kernel_rfl) (reuse_c .any _) rfl ⟨rfl, trivial⟩ rfl (freshB_ok rfl) rfl ?_ | refine k_cloA1 (thk [(1000, _), (1001, _), (1002, _), (1003, _), (1004, _)] 200) rfl rfl (by kernel_rfl) (hC) rfl ⟨rfl, ⟨rfl, ⟨rfl, ⟨rfl, ⟨rfl, trivial⟩⟩⟩⟩⟩ rfl (freshB_ok rfl) rfl ?_ | refine k_moveC rfl rfl ?_)
    | refine run_opsEnd ?_
    | refine run_region ?_
    | refine run_condT rfl (by first | rfl | assumption) ?_
    | refine run_block ?_
    | refine run_skip ?_
    | fail)
        refine run_retA () id (tm := [(6, .dat (.val (.bool false)))]) ?_ (resA_tmp rfl rfl)
        (refine ⟨?_, ?_, by rfl⟩ <;> repeat' (first | exact trivial | exact ALe.ptr rfl | exact ALe.own rfl | exact ALe.elt rfl | exact BLe.boxD _ _ | exact BLe.row rfl | exact BLe.res | exact BLe.dead rfl | exact ALe.dat (PLe.refl _) | exact CLe.nil | refine And.intro ?_ ?_ | refine ALe.iface ?_ | refine ALe.clo ?_ | refine CLe.cons ?_ ?_ | refine BLe.box ?_ | refine BLe.row ?_ | exact ALe.any _ | refine ALe.dat (PLe.of_eq ?_)))
end Go.Proofs.YtbbacpdbbmjblaaGreat
end
section
set_option linter.unusedVariables false
namespace Go.Proofs.YtbbacpdbbmjblaaGreat
open Go.RowKit
set_option linter.unusedSimpArgs false
set_option maxHeartbeats 4000000 in
theorem mapEq_p (m q : List (ByteArray × JV)) (hE : ∀ y ∈ q, ∀ x, lkJ m y.1 = some x → PCall Tryz.prog 132 [dvA, dvV x, dvV y.2] (.val (.bool (eqJ x y.2)))) :
    PCall Tryz.prog 207 [dvMm m, dvA, dvM q] (.val (.bool (Nat.beq m.length q.length && eqJm m q))) := by
  have hC := eqIter_c m q hE
  rw [eqJm_all]
  refine pcall_of_run Tryz.func207 rfl Tryz.ntmps207 rfl (fun X => ?_)
  by_cases hl : m.length = q.length
  · have hq0 : decide (((m.length : Nat) : Int) ≠ ((q.length : Nat) : Int)) = false := by simp; omega
    have e1 : Nat.beq m.length q.length = true := by rw [hl]; simp
    rw [e1, Bool.true_and]
    by_cases hn : q = []
    · subst hn
      have hn2 : m = [] := List.eq_nil_of_length_eq_zero hl
      subst hn2
      have hq1 : decide (((([] : List (ByteArray × JV)).length : Nat) : Int) = 0) = true := rfl
      repeat' (first
    | refine run_seq ?_
    | (refine k_pick rfl ?_; first | refine k_assignD rfl rfl ?_ | refine k_moveD rfl rfl ?_ | refine k_loadW rfl rfl rfl (by first | rfl | (simp only [cellsD]; rfl)) ?_ | refine k_bin2B rfl rfl rfl rfl ?_ | refine k_boxW rfl rfl rfl (by first | rfl | (simp only [cellsD]; rfl)) ?_ | refine k_call rfl (by kernel_rfl) rfl (by first | exact lenM_p _) ?_ | refine k_invS rfl rfl (by kernel_rfl) rfl (by first | exact lenM_p _) ?_)
    | refine run_opsEnd ?_
    | refine run_region ?_
    | refine run_condT rfl (by first | rfl | assumption) ?_
    | refine run_condF rfl (by first | rfl | assumption) ?_
    | refine run_skip ?_
    | refine run_retOk (resOk_tmp rfl rfl ?_)
    | fail)
      all_goals exact PLe.refl _
    · have hq1 : decide (((m.length : Nat) : Int) = 0) = false := by
        rw [hl]
        cases q with
        | nil => exact absurd rfl hn
        | cons x r => simp; omega
      repeat' (first
    | refine run_seq ?_
    | (refine k_pick rfl ?_; first | refine k_assignD rfl rfl ?_ | refine k_moveD rfl rfl ?_ | refine k_loadW rfl rfl rfl (by first | rfl | (simp only [cellsD]; rfl)) ?_ | refine k_bin2B rfl rfl rfl rfl ?_ | refine k_boxW rfl rfl rfl (by first | rfl | (simp only [cellsD]; rfl)) ?_ | refine k_call rfl (by kernel_rfl) rfl (by first | exact lenM_p _) ?_ | refine k_storeB rfl rfl rfl rfl rfl ?_ | refine k_alloc rfl rfl ?_ | refine k_invAS1 (thk [] 200) rfl rfl (by kernel_rfl) (alloc_c) rfl trivial rfl (freshB_ok rfl) rfl ?_ | refine k_invAS1 (thk [(1000, _), (1001, _), (1002, _), (1003, _)] 200) rfl rfl (by kernel_rfl) (hC) rfl ⟨rfl, ⟨rfl, ⟨rfl, ⟨rfl, trivial⟩⟩⟩⟩ rfl (freshB_ok rfl) rfl ?_ | refine k_invS rfl rfl (by kernel_rfl) rfl (by first | exact lenM_p _) ?_ | refine k_makeFunc rfl ?_)
    | refine run_opsEnd ?_
    | refine run_region ?_
    | refine run_condF rfl (by first | rfl | assumption) ?_
    | refine run_skip ?_
    | refine run_retOk (resOk_tmp rfl rfl ?_)
    | refine run_drawC (by kernel_rfl) ?_
    | refine c_nil (And.intro (by kernel_rfl) ?_)
    | refine c_pick (d_loadW rfl rfl rfl (by first | rfl | (simp only [cellsD]; rfl))) ?_
    | refine c_pick (d_loadBP rfl rfl rfl rfl) ?_
    | refine c_pick (d_nilI rfl rfl) ?_
    | refine c_pick (d_ifaceP rfl rfl (by kernel_rfl)) ?_
    | refine c_pick (d_deferA rfl free_idle) ?_
    | fail)
      all_goals exact PLe.refl _
  · have hq0 : decide (((m.length : Nat) : Int) ≠ ((q.length : Nat) : Int)) = true := by simp; omega
    have e1 : Nat.beq m.length q.length = false := by
      cases h : Nat.beq m.length q.length with
      | false => rfl
      | true => exact absurd (Nat.eq_of_beq_eq_true h) hl
    rw [e1, Bool.false_and]
    repeat' (first
    | refine run_seq ?_
    | (refine k_pick rfl ?_; first | refine k_assignD rfl rfl ?_ | refine k_moveD rfl rfl ?_ | refine k_loadW rfl rfl rfl (by first | rfl | (simp only [cellsD]; rfl)) ?_ | refine k_bin2B rfl rfl rfl rfl ?_ | refine k_boxW rfl rfl rfl (by first | rfl | (simp only [cellsD]; rfl)) ?_ | refine k_call rfl (by kernel_rfl) rfl (by first | exact lenM_p _) ?_ | refine k_invS rfl rfl (by kernel_rfl) rfl (by first | exact lenM_p _) ?_)
    | refine run_opsEnd ?_
    | refine run_region ?_
    | refine run_condT rfl (by first | rfl | assumption) ?_
    | refine run_retOk (resOk_tmp rfl rfl ?_)
    | fail)
    all_goals exact PLe.refl _
set_option maxHeartbeats 4000000 in
theorem eqNum_p : ∀ (j k : JV), (j.IsInt || j.IsFloat) = true → (k.IsInt || k.IsFloat) = true → PCall Tryz.prog 132 [dvA, dvV j, dvV k] (.val (.bool (eqJ j k))) := by
  intro j k hj hk
  refine pcall_of_run Tryz.func132 rfl Tryz.ntmps132 rfl (fun X => ?_)
  cases j <;> simp only [JV.IsInt, JV.IsFloat, Bool.or_self, Bool.false_eq_true, Bool.or_false, Bool.or_true] at hj <;> cases k <;> simp only [JV.IsInt, JV.IsFloat, Bool.or_self, Bool.false_eq_true, Bool.or_false, Bool.or_true] at hk
  all_goals
    repeat' (first
    | refine run_seq ?_
    | (refine k_pick rfl ?_; first | refine k_assignD rfl rfl ?_ | refine k_moveD rfl rfl ?_ | refine k_bin2B rfl rfl rfl rfl ?_ | refine k_pickT rfl rfl (by first | rfl | assumption) rfl ?_ | refine k_pickF rfl rfl (by first | rfl | assumption) rfl ?_ | refine k_invD rfl rfl rfl (by kernel_rfl) rfl (by first | exact IsFloat_p _ | exact IsInt_p _ | exact AsFloat_p _ | exact AsInt_p _) ?_ | refine k_fltC rfl rfl rfl rfl ?_ | refine k_convF (q := .f64) rfl rfl (by kernel_rfl) (by kernel_rfl) ?_)
    | refine run_opsEnd ?_
    | refine run_region ?_
    | refine run_condT rfl (by first | rfl | assumption) ?_
    | refine run_condF rfl (by first | rfl | assumption) ?_
    | (refine k_guardY rfl rfl (by first | rfl | assumption) ?_; first | refine k_moveD rfl rfl ?_ | refine k_invD rfl rfl rfl (by kernel_rfl) rfl (by first | exact IsFloat_p _ | exact IsInt_p _ | exact AsFloat_p _ | exact AsInt_p _) ?_)
    | refine k_guardNF rfl rfl (by first | rfl | assumption) rfl ?_
    | refine run_skip ?_
    | refine run_retOk (resOk_tmp rfl rfl ?_)
    | fail)
  all_goals exact PLe.of_eq (by unfold eqJ; rfl)
end Go.Proofs.YtbbacpdbbmjblaaGreat
end
section
set_option linter.unusedVariables false
namespace Go.Proofs.YtbbacpdbbmjblaaGreat
open Go.RowKit
set_option linter.unusedSimpArgs false
set_option maxHeartbeats 40000000 in
theorem eqOth_p (j k : JV) (hl : (j.IsList && k.IsList) = false) (hm : (j.IsMap && k.IsMap) = false) : PCall Tryz.prog 132 [dvA, dvV j, dvV k] (.val (.bool (eqJ j k))) := by
  by_cases hnum : (j.IsInt || j.IsFloat) = true ∧ (k.IsInt || k.IsFloat) = true
  · exact eqNum_p j k hnum.1 hnum.2
  refine pcall_of_run Tryz.func132 rfl Tryz.ntmps132 rfl (fun X => ?_)
  cases j <;> cases k
  all_goals first
    | exact absurd hl (fun h => Bool.noConfusion h)
    | exact absurd hm (fun h => Bool.noConfusion h)
    | exact absurd ⟨rfl, rfl⟩ hnum
    | skip
  all_goals clear hl hm hnum
  all_goals
    repeat' (first
    | refine run_seq ?_
    | (refine k_pick rfl ?_; first | refine k_assignD rfl rfl ?_ | refine k_moveD rfl rfl ?_ | refine k_bin2B rfl rfl rfl rfl ?_ | refine k_pickT rfl rfl (by first | rfl | assumption) rfl ?_ | refine k_pickF rfl rfl (by first | rfl | assumption) rfl ?_ | refine k_cmpBool rfl rfl rfl (by kernel_rfl) rfl ?_ | refine k_invD rfl rfl rfl (by kernel_rfl) rfl (by first | exact IsFloat_p _ | exact IsInt_p _ | exact IsString_p _ | exact IsBool_p _ | exact IsList_p _ | exact IsMap_p _ | exact IsNull_p _ | exact AsString_p _ | exact AsBool_p _ | exact AsFloat_p _ | exact AsInt_p _) ?_)
    | refine run_opsEnd ?_
    | refine run_region ?_
    | refine run_condT rfl (by first | rfl | assumption) ?_
    | refine run_condF rfl (by first | rfl | assumption) ?_
    | (refine k_guardY rfl rfl (by first | rfl | assumption) ?_; first | refine k_moveD rfl rfl ?_ | refine k_invD rfl rfl rfl (by kernel_rfl) rfl (by first | exact IsFloat_p _ | exact IsInt_p _ | exact IsString_p _ | exact IsBool_p _ | exact IsList_p _ | exact IsMap_p _ | exact IsNull_p _ | exact AsString_p _ | exact AsBool_p _ | exact AsFloat_p _ | exact AsInt_p _) ?_)
    | refine k_guardNF rfl rfl (by first | rfl | assumption) rfl ?_
    | refine run_skip ?_
    | refine run_retOk (resOk_tmp rfl rfl ?_)
    | fail)
  all_goals exact PLe.of_eq (by unfold eqJ; rfl)
set_option maxHeartbeats 4000000 in
theorem eqList_p (l q : List JV) (hE : ∀ x ∈ l, ∀ y ∈ q, PCall Tryz.prog 132 [dvA, dvV x, dvV y] (.val (.bool (eqJ x y)))) : PCall Tryz.prog 132 [dvA, dvV (.list l), dvV (.list q)] (.val (.bool (eqJ (.list l) (.list q)))) := by
  have hC := lstEq_p l q hE
  rw [show eqJ (.list l) (.list q) = eqJs l q by unfold eqJ; rfl]
  refine pcall_of_run Tryz.func132 rfl Tryz.ntmps132 rfl (fun X => ?_)
  repeat' (first
    | refine run_seq ?_
    | (refine k_pick rfl ?_; first | refine k_assignD rfl rfl ?_ | refine k_moveD rfl rfl ?_ | refine k_pickF rfl rfl (by first | rfl | assumption) rfl ?_ | refine k_invD rfl rfl rfl (by kernel_rfl) rfl (by first | exact IsFloat_p _ | exact IsInt_p _ | exact IsString_p _ | exact IsBool_p _ | exact IsList_p _ | exact asList_p _ | exact hC) ?_ | refine k_invS rfl rfl (by kernel_rfl) rfl (by first | exact IsFloat_p _ | exact IsInt_p _ | exact IsString_p _ | exact IsBool_p _ | exact IsList_p _ | exact asList_p _ | exact hC) ?_ | refine k_nilI rfl rfl ?_ | refine k_deferA rfl free_idle ?_)
    | refine run_opsEnd ?_
    | refine run_region ?_
    | refine run_condT rfl (by first | rfl | assumption) ?_
    | refine run_condF rfl (by first | rfl | assumption) ?_
    | (refine k_guardY rfl rfl (by first | rfl | assumption) ?_; first | refine k_moveD rfl rfl ?_ | refine k_invD rfl rfl rfl (by kernel_rfl) rfl (by first | exact IsFloat_p _ | exact IsInt_p _ | exact IsString_p _ | exact IsBool_p _ | exact IsList_p _ | exact asList_p _ | exact hC) ?_)
    | refine run_skip ?_
    | refine run_retOk (resOk_tmp rfl rfl ?_)
    | fail)
  all_goals exact PLe.refl _
set_option maxHeartbeats 4000000 in
theorem eqMap_p (m q : List (ByteArray × JV)) (hE : ∀ y ∈ q, ∀ x, lkJ m y.1 = some x → PCall Tryz.prog 132 [dvA, dvV x, dvV y.2] (.val (.bool (eqJ x y.2)))) : PCall Tryz.prog 132 [dvA, dvV (.map m), dvV (.map q)] (.val (.bool (eqJ (.map m) (.map q)))) := by
  have hC := mapEq_p m q hE
  rw [show eqJ (.map m) (.map q) = (Nat.beq m.length q.length && eqJm m q) by unfold eqJ; rfl]
  refine pcall_of_run Tryz.func132 rfl Tryz.ntmps132 rfl (fun X => ?_)
  repeat' (first
    | refine run_seq ?_
    | (refine k_pick rfl ?_; first | refine k_assignD rfl rfl ?_ | refine k_moveD rfl rfl ?_ | refine k_pickF rfl rfl (by first | rfl | assumption) rfl ?_ | refine k_invD rfl rfl rfl (by kernel_rfl) rfl (by first | exact IsFloat_p _ | exact IsInt_p _ | exact IsString_p _ | exact IsBool_p _ | exact IsList_p _ | exact IsMap_p _ | exact asMap_p _ | exact hC) ?_ | refine k_invS rfl rfl (by kernel_rfl) rfl (by first | exact IsFloat_p _ | exact IsInt_p _ | exact IsString_p _ | exact IsBool_p _ | exact IsList_p _ | exact IsMap_p _ | exact asMap_p _ | exact hC) ?_ | refine k_nilI rfl rfl ?_ | refine k_deferA rfl free_idle ?_)
    | refine run_opsEnd ?_
    | refine run_region ?_
    | refine run_condT rfl (by first | rfl | assumption) ?_
    | refine run_condF rfl (by first | rfl | assumption) ?_
    | (refine k_guardY rfl rfl (by first | rfl | assumption) ?_; first | refine k_moveD rfl rfl ?_ | refine k_invD rfl rfl rfl (by kernel_rfl) rfl (by first | exact IsFloat_p _ | exact IsInt_p _ | exact IsString_p _ | exact IsBool_p _ | exact IsList_p _ | exact IsMap_p _ | exact asMap_p _ | exact hC) ?_)
    | refine run_skip ?_
    | refine run_retOk (resOk_tmp rfl rfl ?_)
    | fail)
  all_goals exact PLe.refl _
theorem eqv_p : ∀ (k j : JV), PCall Tryz.prog 132 [dvA, dvV j, dvV k] (.val (.bool (eqJ j k)))
  | .list q, .list l => eqList_p l q (fun x _ y hy => eqv_p y x)
  | .map q, .map m => eqMap_p m q (fun y hy x _ => eqv_p y.2 x)
  | .list q, .null => eqOth_p _ _ rfl rfl
  | .list q, .bool _ => eqOth_p _ _ rfl rfl
  | .list q, .int _ => eqOth_p _ _ rfl rfl
  | .list q, .flt _ => eqOth_p _ _ rfl rfl
  | .list q, .str _ => eqOth_p _ _ rfl rfl
  | .list q, .map _ => eqOth_p _ _ rfl rfl
  | .map q, .null => eqOth_p _ _ rfl rfl
  | .map q, .bool _ => eqOth_p _ _ rfl rfl
  | .map q, .int _ => eqOth_p _ _ rfl rfl
  | .map q, .flt _ => eqOth_p _ _ rfl rfl
  | .map q, .str _ => eqOth_p _ _ rfl rfl
  | .map q, .list _ => eqOth_p _ _ rfl rfl
  | .null, j => eqOth_p _ _ (by cases j <;> rfl) (by cases j <;> rfl)
  | .bool _, j => eqOth_p _ _ (by cases j <;> rfl) (by cases j <;> rfl)
  | .int _, j => eqOth_p _ _ (by cases j <;> rfl) (by cases j <;> rfl)
  | .flt _, j => eqOth_p _ _ (by cases j <;> rfl) (by cases j <;> rfl)
  | .str _, j => eqOth_p _ _ (by cases j <;> rfl) (by cases j <;> rfl)
termination_by k => SizeOf.sizeOf k
decreasing_by
  all_goals simp_wf
  · have := List.sizeOf_lt_of_mem hy; omega
  · have := List.sizeOf_lt_of_mem hy
    obtain ⟨y1, y2⟩ := y
    simp at this ⊢
    omega
theorem equals_p (j k : JV) : PCall Tryz.prog 120 [dvV j, dvV k] (.val (.bool (eqJ j k))) := by
  have hC := eqv_p k j
  refine pcall_of_run Tryz.func120 rfl Tryz.ntmps120 rfl (fun X => ?_)
  repeat' (first
    | refine run_seq ?_
    | (refine k_pick rfl ?_; first | refine k_assignD rfl rfl ?_ | refine k_moveD rfl rfl ?_ | refine k_boxW rfl rfl rfl (by first | rfl | (simp only [cellsD]; rfl)) ?_ | refine k_build rfl rfl rfl ?_ | refine k_ifaceP rfl rfl (by kernel_rfl) ?_ | refine k_callZ gV rfl (by kernel_rfl) rfl (by first | exact hC) Flat.val ?_)
    | refine run_opsEnd ?_
    | refine run_region ?_
    | refine run_retOk (resOk_tmp rfl rfl ?_)
    | fail)
  all_goals exact PLe.refl _
end Go.Proofs.YtbbacpdbbmjblaaGreat
end
section
namespace Go.Proofs.YtbbacpdbbmjblaaGreat
open Go.RowKit
set_option linter.unusedSimpArgs false
/-- The value is a number. -/
def isNum (x : GV) : Bool := decide (x.kind = 2) || decide (x.kind = 3)
set_option maxHeartbeats 1000000 in
set_option maxRecDepth 100000 in
theorem number_any (x : GV) (w : World) (v : Value) (hv : IsV w (Btw 0 w.heap.size) x v) :
    Calls Tryz.prog 113 #[v] w fun e w' => e = .returned (.bool (isNum x)) ∧ Below w.heap.size w w' := by
  obtain ⟨a0, c0, a1, c1, rfl⟩ := hv.form
  clear hv
  by_cases h2 : x.kind = 2
  · have e : isNum x = true := by simp [isNum, h2]
    rw [e, h2]
    clear h2 e
    go_enter Tryz.func113, Tryz.ntmps113
    go_wp2_with fail
    go_ret
    exact ⟨rfl, (Below.refl _ _).alloc (Nat.le_refl _) _⟩
  by_cases h3 : x.kind = 3
  · have e : isNum x = true := by simp [isNum, h3]
    rw [e, h3]
    clear h2 h3 e
    go_enter Tryz.func113, Tryz.ntmps113
    go_wp2_with fail
    go_ret
    exact ⟨rfl, (Below.refl _ _).alloc (Nat.le_refl _) _⟩
  · have e : isNum x = false := by simp [isNum, h2, h3]
    rw [e]
    have k2 : (x.kind == 2) = false := by simp [h2]
    have k3 : (x.kind == 3) = false := by simp [h3]
    clear h2 h3 e
    go_enter Tryz.func113, Tryz.ntmps113
    go_wp2_with fail
    go_ret
    exact ⟨rfl, (Below.refl _ _).alloc (Nat.le_refl _) _⟩
/-- A number as a floating-point number. -/
def asF (x : GV) : Nat := if x.kind = 2 then floatOfInt FloatKind.f64 x.n else x.f
set_option maxHeartbeats 1000000 in
set_option maxRecDepth 100000 in
theorem asFloat_any (x : GV) (w : World) (v : Value) (hv : IsV w (Btw 0 w.heap.size) x v) :
    Calls Tryz.prog 114 #[v] w fun e w' => e = .returned (.float .f64 (asF x)) ∧ Below w.heap.size w w' := by
  obtain ⟨a0, c0, a1, c1, rfl⟩ := hv.form
  clear hv
  by_cases h2 : x.kind = 2
  · have e : asF x = floatOfInt FloatKind.f64 x.n := by simp [asF, h2]
    rw [e, h2]
    clear h2 e
    go_enter Tryz.func114, Tryz.ntmps114
    go_wp2_with fail
    go_ret
    exact ⟨rfl, (Below.refl _ _).alloc (Nat.le_refl _) _⟩
  · have e : asF x = x.f := by simp [asF, h2]
    rw [e]
    have k2 : (x.kind == 2) = false := by simp [h2]
    clear h2 e
    go_enter Tryz.func114, Tryz.ntmps114
    go_wp2_with fail
    go_ret
    exact ⟨rfl, (Below.refl _ _).alloc (Nat.le_refl _) _⟩
end Go.Proofs.YtbbacpdbbmjblaaGreat
end
section
set_option linter.unusedVariables false
namespace Go.Proofs.YtbbacpdbbmjblaaGreat
open Go.RowKit
set_option linter.unusedSimpArgs false
/-- How two floating-point numbers compare. -/
def cmpFs (a b : Nat) : Int := if FloatKind.f64.format.order a b == some .lt then -1 else if FloatKind.f64.format.order a b == some .gt then 1 else 0
theorem sInts_p (a b : Int) : PCall Tryz.prog 53 [.val (.int .i64 a), .val (.int .i64 b)] (.val (.int .i64 (cmpI a b))) := by
  refine pcall_of_run Tryz.func53 rfl Tryz.ntmps53 rfl (fun X => ?_)
  unfold cmpI
  by_cases h1 : a < b
  · have q1 : decide (a < b) = true := by simpa using h1
    rw [if_pos h1]
    repeat' (first
    | refine run_seq ?_
    | (refine k_pick rfl ?_; first | refine k_assignD rfl rfl ?_ | refine k_moveD rfl rfl ?_ | refine k_bin2B rfl rfl rfl rfl ?_)
    | refine run_opsEnd ?_
    | refine run_region ?_
    | refine run_condT rfl (by first | rfl | assumption) ?_
    | refine run_retOk (resOk_tmp rfl rfl ?_)
    | fail)
    all_goals exact PLe.refl _
  · have q1 : decide (a < b) = false := by simpa using h1
    rw [if_neg h1]
    by_cases h2 : b < a
    · have q2 : decide (b < a) = true := by simpa using h2
      rw [if_pos h2]
      repeat' (first
    | refine run_seq ?_
    | (refine k_pick rfl ?_; first | refine k_assignD rfl rfl ?_ | refine k_moveD rfl rfl ?_ | refine k_bin2B rfl rfl rfl rfl ?_)
    | refine run_opsEnd ?_
    | refine run_region ?_
    | refine run_condT rfl (by first | rfl | assumption) ?_
    | refine run_condF rfl (by first | rfl | assumption) ?_
    | refine run_skip ?_
    | refine run_retOk (resOk_tmp rfl rfl ?_)
    | fail)
      all_goals exact PLe.refl _
    · have q2 : decide (b < a) = false := by simpa using h2
      rw [if_neg h2]
      repeat' (first
    | refine run_seq ?_
    | (refine k_pick rfl ?_; first | refine k_assignD rfl rfl ?_ | refine k_moveD rfl rfl ?_ | refine k_bin2B rfl rfl rfl rfl ?_)
    | refine run_opsEnd ?_
    | refine run_region ?_
    | refine run_condF rfl (by first | rfl | assumption) ?_
    | refine run_skip ?_
    | refine run_retOk (resOk_tmp rfl rfl ?_)
    | fail)
      all_goals exact PLe.refl _
theorem sFloats_p (a b : Nat) : PCall Tryz.prog 116 [.val (.float .f64 a), .val (.float .f64 b)] (.val (.int .i64 (cmpFs a b))) := by
  refine pcall_of_run Tryz.func116 rfl Tryz.ntmps116 rfl (fun X => ?_)
  unfold cmpFs
  cases h1 : (FloatKind.f64.format.order a b == some .lt) <;> cases h2 : (FloatKind.f64.format.order a b == some .gt)
  all_goals
    repeat' (first
    | refine run_seq ?_
    | (refine k_pick rfl ?_; first | refine k_assignD rfl rfl ?_ | refine k_moveD rfl rfl ?_ | refine k_fltC rfl rfl rfl rfl ?_)
    | refine run_opsEnd ?_
    | refine run_region ?_
    | refine run_condT rfl (by first | rfl | assumption) ?_
    | refine run_condF rfl (by first | rfl | assumption) ?_
    | refine run_skip ?_
    | refine run_retOk (resOk_tmp rfl rfl ?_)
    | fail)
  all_goals exact PLe.refl _
theorem sStrs_p (a b : ByteArray) : PCall Tryz.prog 56 [.val (.string a), .val (.string b)] (.val (.int .i64 (cmpS a b))) := by
  intro w F vs hF hv
  unfold Reps at hv; obtain ⟨v, r, rfl, h1, hv⟩ := hv
  unfold Reps at hv; obtain ⟨v', r', rfl, h2, hv⟩ := hv
  unfold Reps at hv; subst hv
  unfold Rep at h1 h2
  obtain ⟨rfl, ha⟩ := h1
  obtain ⟨rfl, hb⟩ := h2
  refine (CompareStrings_any a b w ha hb).mono ?_
  rintro e w' ⟨rfl, hB⟩
  refine ⟨_, rfl, hB, ?_⟩
  unfold Rep
  refine ⟨rfl, ?_⟩
  show (Lit.int .i64 _).wf = true
  unfold cmpS
  split
  · rfl
  · split <;> rfl
/-- The rank of a value's kind. -/
def rankV (x : GV) : Int := if x.kind = 2 then 0 else if x.kind = 3 then 0 else if x.kind = 4 then 1 else if x.kind = 1 then 2 else if x.kind = 5 then 3 else if x.kind = 6 then 4 else 5
theorem sRank_p (x : GV) : PCall Tryz.prog 115 [qV x] (.val (.int .i64 (rankV x))) := by
  obtain ⟨k, n, f, s, ks, l⟩ := x
  rw [show rankV (.mk k n f s ks l) = if k = 2 then 0 else if k = 3 then 0 else if k = 4 then 1 else if k = 1 then 2 else if k = 5 then 3 else if k = 6 then 4 else 5 from rfl]
  refine pcall_of_run Tryz.func115 rfl Tryz.ntmps115 rfl (fun X => ?_)
  by_cases h2 : k = 2
  · subst h2
    repeat' (first
    | refine run_seq ?_
    | (refine k_pick rfl ?_; first | refine k_assignD rfl rfl ?_ | refine k_fieldAddrB rfl rfl rfl ?_ | refine k_loadBD rfl rfl rfl (by first | rfl | (simp only [cellsD]; rfl)) ?_ | refine k_bin2B rfl rfl rfl rfl ?_ | refine k_boxW rfl rfl rfl (by first | rfl | (simp only [cellsD]; rfl)) ?_)
    | refine run_opsEnd ?_
    | refine run_region ?_
    | refine run_condT rfl (by first | rfl | assumption) ?_
    | refine run_block ?_
    | refine run_skip ?_
    | refine run_retOk (resOk_tmp rfl rfl ?_)
    | fail)
    all_goals exact PLe.refl _
  have q2 : decide (k = 2) = false := decide_eq_false h2
  rw [if_neg h2]
  by_cases h3 : k = 3
  · subst h3
    repeat' (first
    | refine run_seq ?_
    | (refine k_pick rfl ?_; first | refine k_assignD rfl rfl ?_ | refine k_fieldAddrB rfl rfl rfl ?_ | refine k_loadBD rfl rfl rfl (by first | rfl | (simp only [cellsD]; rfl)) ?_ | refine k_bin2B rfl rfl rfl rfl ?_ | refine k_boxW rfl rfl rfl (by first | rfl | (simp only [cellsD]; rfl)) ?_)
    | refine run_opsEnd ?_
    | refine run_region ?_
    | refine run_condT rfl (by first | rfl | assumption) ?_
    | refine run_condF rfl (by first | rfl | assumption) ?_
    | refine run_block ?_
    | refine run_retOk (resOk_tmp rfl rfl ?_)
    | fail)
    all_goals exact PLe.refl _
  have q3 : decide (k = 3) = false := decide_eq_false h3
  rw [if_neg h3]
  by_cases h4 : k = 4
  · subst h4
    repeat' (first
    | refine run_seq ?_
    | (refine k_pick rfl ?_; first | refine k_assignD rfl rfl ?_ | refine k_fieldAddrB rfl rfl rfl ?_ | refine k_loadBD rfl rfl rfl (by first | rfl | (simp only [cellsD]; rfl)) ?_ | refine k_bin2B rfl rfl rfl rfl ?_ | refine k_boxW rfl rfl rfl (by first | rfl | (simp only [cellsD]; rfl)) ?_)
    | refine run_opsEnd ?_
    | refine run_region ?_
    | refine run_condT rfl (by first | rfl | assumption) ?_
    | refine run_condF rfl (by first | rfl | assumption) ?_
    | refine run_block ?_
    | refine run_retOk (resOk_tmp rfl rfl ?_)
    | fail)
    all_goals exact PLe.refl _
  have q4 : decide (k = 4) = false := decide_eq_false h4
  rw [if_neg h4]
  by_cases h1 : k = 1
  · subst h1
    repeat' (first
    | refine run_seq ?_
    | (refine k_pick rfl ?_; first | refine k_assignD rfl rfl ?_ | refine k_fieldAddrB rfl rfl rfl ?_ | refine k_loadBD rfl rfl rfl (by first | rfl | (simp only [cellsD]; rfl)) ?_ | refine k_bin2B rfl rfl rfl rfl ?_ | refine k_boxW rfl rfl rfl (by first | rfl | (simp only [cellsD]; rfl)) ?_)
    | refine run_opsEnd ?_
    | refine run_region ?_
    | refine run_condT rfl (by first | rfl | assumption) ?_
    | refine run_condF rfl (by first | rfl | assumption) ?_
    | refine run_block ?_
    | refine run_retOk (resOk_tmp rfl rfl ?_)
    | fail)
    all_goals exact PLe.refl _
  have q1 : decide (k = 1) = false := decide_eq_false h1
  rw [if_neg h1]
  by_cases h5 : k = 5
  · subst h5
    repeat' (first
    | refine run_seq ?_
    | (refine k_pick rfl ?_; first | refine k_assignD rfl rfl ?_ | refine k_fieldAddrB rfl rfl rfl ?_ | refine k_loadBD rfl rfl rfl (by first | rfl | (simp only [cellsD]; rfl)) ?_ | refine k_bin2B rfl rfl rfl rfl ?_ | refine k_boxW rfl rfl rfl (by first | rfl | (simp only [cellsD]; rfl)) ?_)
    | refine run_opsEnd ?_
    | refine run_region ?_
    | refine run_condT rfl (by first | rfl | assumption) ?_
    | refine run_condF rfl (by first | rfl | assumption) ?_
    | refine run_block ?_
    | refine run_retOk (resOk_tmp rfl rfl ?_)
    | fail)
    all_goals exact PLe.refl _
  have q5 : decide (k = 5) = false := decide_eq_false h5
  rw [if_neg h5]
  by_cases h6 : k = 6
  · subst h6
    repeat' (first
    | refine run_seq ?_
    | (refine k_pick rfl ?_; first | refine k_assignD rfl rfl ?_ | refine k_fieldAddrB rfl rfl rfl ?_ | refine k_loadBD rfl rfl rfl (by first | rfl | (simp only [cellsD]; rfl)) ?_ | refine k_bin2B rfl rfl rfl rfl ?_ | refine k_boxW rfl rfl rfl (by first | rfl | (simp only [cellsD]; rfl)) ?_)
    | refine run_opsEnd ?_
    | refine run_region ?_
    | refine run_condT rfl (by first | rfl | assumption) ?_
    | refine run_condF rfl (by first | rfl | assumption) ?_
    | refine run_block ?_
    | refine run_retOk (resOk_tmp rfl rfl ?_)
    | fail)
    all_goals exact PLe.refl _
  have q6 : decide (k = 6) = false := decide_eq_false h6
  rw [if_neg h6]
  repeat' (first
    | refine run_seq ?_
    | (refine k_pick rfl ?_; first | refine k_assignD rfl rfl ?_ | refine k_fieldAddrB rfl rfl rfl ?_ | refine k_loadBD rfl rfl rfl (by first | rfl | (simp only [cellsD]; rfl)) ?_ | refine k_bin2B rfl rfl rfl rfl ?_ | refine k_boxW rfl rfl rfl (by first | rfl | (simp only [cellsD]; rfl)) ?_)
    | refine run_opsEnd ?_
    | refine run_region ?_
    | refine run_condF rfl (by first | rfl | assumption) ?_
    | refine run_block ?_
    | refine run_blkEnd ?_
    | refine run_skip ?_
    | refine run_retOk (resOk_tmp rfl rfl ?_)
    | fail)
  all_goals exact PLe.refl _
end Go.Proofs.YtbbacpdbbmjblaaGreat
end
section
set_option linter.unusedVariables false
namespace Go.Proofs.YtbbacpdbbmjblaaGreat
open Go.RowKit
set_option linter.unusedSimpArgs false
mutual
/-- How two plain values compare. -/
def cmpP : GV → GV → Int
  | .mk k n f s ks l, .mk k' n' f' s' ks' l' =>
    if cmpI (rankV (.mk k n f s ks l)) (rankV (.mk k' n' f' s' ks' l')) ≠ 0 then cmpI (rankV (.mk k n f s ks l)) (rankV (.mk k' n' f' s' ks' l'))
    else if rankV (.mk k n f s ks l) = 0 then (if k = 2 ∧ k' = 2 then cmpI n n' else cmpFs (asF (.mk k n f s ks l)) (asF (.mk k' n' f' s' ks' l')))
    else if rankV (.mk k n f s ks l) = 1 then cmpS s s'
    else if rankV (.mk k n f s ks l) = 2 then cmpI n n'
    else if rankV (.mk k n f s ks l) = 3 then cmpPl l l'
    else if rankV (.mk k n f s ks l) = 4 then cmpPm ks l ks' l'
    else 0
def cmpPl : List GV → List GV → Int
  | x :: r, y :: q => if cmpP x y ≠ 0 then cmpP x y else cmpPl r q
  | [], b => cmpI 0 b.length
  | a, [] => cmpI a.length 0
def cmpPm : List ByteArray → List GV → List ByteArray → List GV → Int
  | k :: ks, x :: l, k' :: ks', y :: l' => if cmpS k k' ≠ 0 then cmpS k k' else if cmpP x y ≠ 0 then cmpP x y else cmpPm ks l ks' l'
  | ks, _, ks', _ => cmpI ks.length ks'.length
end
mutual
/-- Every key has a value. -/
def PlG : GV → Prop
  | .mk _ _ _ _ ks l => ks.length ≤ l.length ∧ PlGs l
def PlGs : List GV → Prop
  | [] => True
  | x :: r => PlG x ∧ PlGs r
end
theorem PlGs_mem : ∀ {l : List GV}, PlGs l → ∀ y ∈ l, PlG y
  | x :: r, h, y, hy => by
    simp only [PlGs] at h
    rcases List.mem_cons.1 hy with rfl | hy
    · exact h.1
    · exact PlGs_mem h.2 y hy
theorem cmpPl_ne : ∀ {a b : List GV} {i : Nat} {x y : GV}, (∀ j u v, j < i → a[j]? = some u → b[j]? = some v → cmpP u v = 0) → a[i]? = some x → b[i]? = some y → cmpP x y ≠ 0 → cmpPl a b = cmpP x y
  | x' :: r, y' :: q, 0, x, y, _, hx, hy, h => by
    simp only [List.getElem?_cons_zero, Option.some.injEq] at hx hy
    subst hx hy
    simp only [cmpPl, if_pos h]
  | x' :: r, y' :: q, i + 1, x, y, hall, hx, hy, h => by
    simp only [cmpPl]
    rw [if_neg (by rw [hall 0 x' y' (by omega) rfl rfl]; simp)]
    exact cmpPl_ne (i := i) (fun j u v hj hu hv => hall (j + 1) u v (by omega) (by simpa using hu) (by simpa using hv)) (by simpa using hx) (by simpa using hy) h
  | [], _, _, _, _, _, hx, _, _ => by simp at hx
  | _ :: _, [], _, _, _, _, _, hy, _ => by simp at hy
theorem cmpPl_end : ∀ {a b : List GV}, (∀ (j : Nat) (u v : GV), a[j]? = some u → b[j]? = some v → cmpP u v = 0) → cmpPl a b = cmpI a.length b.length
  | [], b, _ => by simp only [cmpPl]; rfl
  | _ :: _, [], _ => by simp only [cmpPl]; rfl
  | x :: r, y :: q, h => by
    simp only [cmpPl]
    rw [if_neg (by rw [h 0 x y rfl rfl]; simp), cmpPl_end (fun j u v hu hv => h (j + 1) u v (by simpa using hu) (by simpa using hv))]
    unfold cmpI
    simp
set_option maxHeartbeats 4000000 in
theorem sLists_p (l l' : List GV) (ih : ∀ a ∈ l, ∀ b ∈ l', PCall Tryz.prog 84 [qV a, qV b] (.val (.int .i64 (cmpP a b)))) : PCall Tryz.prog 117 [.sl 6 88 (pdVs l), .sl 6 88 (pdVs l')] (.val (.int .i64 (cmpPl l l'))) := by
  refine pcall_fits fun hfit => ?_
  have b1 := (hfit (.sl 6 88 (pdVs l)) (by simp)).sl.2.1
  rw [pdVs_len] at b1
  clear hfit
  have hll := pdVs_len l
  have hll' := pdVs_len l'
  have cI := sInts_p (((pdVs l).length : Nat) : Int) (((pdVs l').length : Nat) : Int)
  refine pcall_of_run Tryz.func117 rfl Tryz.ntmps117 rfl (fun X => ?_)
  repeat' (first
    | refine run_seq ?_
    | (refine k_pick rfl ?_; refine k_assignD rfl rfl ?_)
    | refine run_opsEnd ?_
    | refine run_region ?_
    | refine run_block ?_
    | fail)
  refine run_loopS (ι := { j : Nat // (j ≤ l.length ∧ j ≤ l'.length) ∧ ∀ i x y, i < j → l[i]? = some x → l'[i]? = some y → cmpP x y = 0 })
    (fun j => [(0, .dat (.sl 6 88 (pdVs l))), (1, .dat (.sl 6 88 (pdVs l'))), (5, .dat (.val (.int .i64 (j.1 : Nat))))])
    (fun _ => []) (fun j => l.length - j.1) ⟨0, ⟨Nat.zero_le _, Nat.zero_le _⟩, fun i _ _ h => absurd h (Nat.not_lt_zero i)⟩ id ?_ ?_
  · (refine ⟨?_, ?_, by rfl⟩ <;> repeat' (first | exact trivial | exact ALe.ptr rfl | exact ALe.own rfl | exact ALe.elt rfl | exact BLe.boxD _ _ | exact BLe.row rfl | exact BLe.res | exact BLe.dead rfl | exact ALe.dat (PLe.refl _) | exact CLe.nil | refine And.intro ?_ ?_ | refine ALe.iface ?_ | refine ALe.clo ?_ | refine CLe.cons ?_ ?_ | refine BLe.box ?_ | refine BLe.row ?_ | exact ALe.any _ | refine ALe.dat (PLe.of_eq ?_)))
  rintro ⟨j, ⟨hj, hj'⟩, hall⟩
  have hend : j = l.length ∨ j = l'.length → cmpPl l l' = cmpI (((pdVs l).length : Nat) : Int) (((pdVs l').length : Nat) : Int) := fun h => by
    rw [hll, hll']
    exact cmpPl_end (fun i u v hu hv => hall i u v (by
      have := (List.getElem?_eq_some_iff.1 hu).1
      have := (List.getElem?_eq_some_iff.1 hv).1
      omega) hu hv)
  by_cases hlt : j < l.length
  · have g1 : decide ((j : Int) < (((pdVs l).length : Nat) : Int)) = true := decide_eq_true (by omega)
    by_cases hlt' : j < l'.length
    · have g2 : decide ((j : Int) < (((pdVs l').length : Nat) : Int)) = true := decide_eq_true (by omega)
      obtain ⟨x, hx⟩ : ∃ x, l[j]? = some x := ⟨_, List.getElem?_eq_getElem hlt⟩
      obtain ⟨y, hy⟩ : ∃ y, l'[j]? = some y := ⟨_, List.getElem?_eq_getElem hlt'⟩
      have i1 : (pdVs l)[((j : Nat) : Int).toNat]? = some (qV x) := by rw [show qV x = pdV x from (pdV_eq x).symm]; exact pdVs_at hx
      have i2 : (pdVs l')[((j : Nat) : Int).toNat]? = some (qV y) := by rw [show qV y = pdV y from (pdV_eq y).symm]; exact pdVs_at hy
      have hC := ih x (List.mem_of_getElem? hx) y (List.mem_of_getElem? hy)
      by_cases hr : cmpP x y = 0
      · have g3 : decide (cmpP x y ≠ 0) = false := decide_eq_false (by simp [hr])
        repeat' (first
    | refine run_seq ?_
    | (refine k_pick rfl ?_; first | refine k_assignD rfl rfl ?_ | refine k_moveD rfl rfl ?_ | refine k_bin2B rfl rfl rfl rfl ?_ | refine k_pickT rfl rfl (by first | rfl | assumption) rfl ?_ | refine k_lenD rfl rfl ?_ | refine k_ariI rfl rfl rfl rfl (by first | omega | (dsimp only; omega)) ?_)
    | refine run_opsEnd ?_
    | refine run_region ?_
    | refine run_condT rfl (by first | rfl | assumption) ?_
    | refine run_condF rfl (by first | rfl | assumption) ?_
    | (refine k_guardY rfl rfl (by first | rfl | assumption) ?_; first | refine k_moveD rfl rfl ?_ | refine k_bin2B rfl rfl rfl rfl ?_ | refine k_lenD rfl rfl ?_)
    | refine run_block ?_
    | refine run_blkEnd ?_
    | refine run_skip ?_
    | refine run_drawC (by kernel_rfl) ?_
    | refine c_nil (And.intro (by kernel_rfl) ?_)
    | refine c_pick (d_indexAddrD rfl rfl rfl (by first | omega | (dsimp only; omega)) (by assumption)) ?_
    | refine c_pick (d_assignD rfl rfl) ?_
    | refine c_pick (d_moveD rfl rfl) ?_
    | refine c_pick (d_call rfl (by kernel_rfl) rfl (by first | exact hC)) ?_
    | refine c_pick (d_loadD rfl rfl (by first | rfl | (simp only [cellsD]; rfl))) ?_
    | fail)
        refine run_again ?_
        refine ⟨⟨j + 1, ⟨by omega, by omega⟩, fun i x' y' hi hx' hy' => ?_⟩, id, by simp only; omega, ?_⟩
        · by_cases e : i = j
          · subst e
            rw [hx] at hx'; rw [hy] at hy'
            cases hx'; cases hy'
            exact hr
          · exact hall i x' y' (by omega) hx' hy'
        (refine ⟨?_, ?_, by rfl⟩ <;> repeat' (first | exact trivial | exact ALe.ptr rfl | exact ALe.own rfl | exact ALe.elt rfl | exact BLe.boxD _ _ | exact BLe.row rfl | exact BLe.res | exact BLe.dead rfl | exact ALe.dat (PLe.refl _) | exact CLe.nil | refine And.intro ?_ ?_ | refine ALe.iface ?_ | refine ALe.clo ?_ | refine CLe.cons ?_ ?_ | refine BLe.box ?_ | refine BLe.row ?_ | exact ALe.any _ | refine ALe.dat (PLe.of_eq ?_)))
      · have g3 : decide (cmpP x y ≠ 0) = true := decide_eq_true hr
        rw [cmpPl_ne (fun i u v hi hu hv => hall i u v hi hu hv) hx hy hr]
        repeat' (first
    | refine run_seq ?_
    | (refine k_pick rfl ?_; first | refine k_assignD rfl rfl ?_ | refine k_moveD rfl rfl ?_ | refine k_bin2B rfl rfl rfl rfl ?_ | refine k_pickT rfl rfl (by first | rfl | assumption) rfl ?_ | refine k_lenD rfl rfl ?_)
    | refine run_opsEnd ?_
    | refine run_region ?_
    | refine run_condT rfl (by first | rfl | assumption) ?_
    | (refine k_guardY rfl rfl (by first | rfl | assumption) ?_; first | refine k_moveD rfl rfl ?_ | refine k_bin2B rfl rfl rfl rfl ?_ | refine k_lenD rfl rfl ?_)
    | refine run_block ?_
    | refine run_skip ?_
    | refine run_retOk (resOk_tmp rfl rfl ?_)
    | refine run_drawC (by kernel_rfl) ?_
    | refine c_nil (And.intro (by kernel_rfl) ?_)
    | refine c_pick (d_indexAddrD rfl rfl rfl (by first | omega | (dsimp only; omega)) (by assumption)) ?_
    | refine c_pick (d_assignD rfl rfl) ?_
    | refine c_pick (d_moveD rfl rfl) ?_
    | refine c_pick (d_call rfl (by kernel_rfl) rfl (by first | exact hC)) ?_
    | refine c_pick (d_loadD rfl rfl (by first | rfl | (simp only [cellsD]; rfl))) ?_
    | fail)
        all_goals exact PLe.refl _
    · have g2 : decide ((j : Int) < (((pdVs l').length : Nat) : Int)) = false := decide_eq_false (by omega)
      rw [hend (.inr (by omega))]
      repeat' (first
    | refine run_seq ?_
    | (refine k_pick rfl ?_; first | refine k_assignD rfl rfl ?_ | refine k_moveD rfl rfl ?_ | refine k_bin2B rfl rfl rfl rfl ?_ | refine k_pickT rfl rfl (by first | rfl | assumption) rfl ?_ | refine k_call rfl (by kernel_rfl) rfl (by first | exact cI) ?_ | refine k_lenD rfl rfl ?_)
    | refine run_opsEnd ?_
    | refine run_region ?_
    | refine run_condF rfl (by first | rfl | assumption) ?_
    | (refine k_guardY rfl rfl (by first | rfl | assumption) ?_; first | refine k_moveD rfl rfl ?_ | refine k_bin2B rfl rfl rfl rfl ?_ | refine k_lenD rfl rfl ?_)
    | refine run_exit rfl ?_
    | refine run_retOk (resOk_tmp rfl rfl ?_)
    | fail)
      all_goals exact PLe.refl _
  · have g1 : decide ((j : Int) < (((pdVs l).length : Nat) : Int)) = false := decide_eq_false (by omega)
    rw [hend (.inl (by omega))]
    repeat' (first
    | refine run_seq ?_
    | (refine k_pick rfl ?_; first | refine k_assignD rfl rfl ?_ | refine k_moveD rfl rfl ?_ | refine k_bin2B rfl rfl rfl rfl ?_ | refine k_pickF rfl rfl (by first | rfl | assumption) rfl ?_ | refine k_call rfl (by kernel_rfl) rfl (by first | exact cI) ?_ | refine k_lenD rfl rfl ?_)
    | refine run_opsEnd ?_
    | refine run_region ?_
    | refine run_condF rfl (by first | rfl | assumption) ?_
    | refine k_guardNT rfl rfl (by first | rfl | assumption) rfl ?_
    | refine run_exit rfl ?_
    | refine run_retOk (resOk_tmp rfl rfl ?_)
    | fail)
    all_goals exact PLe.refl _
theorem cmpPm_ne1 : ∀ {ks ks' : List ByteArray} {l l' : List GV} {i : Nat} {k k' : ByteArray}, ks.length ≤ l.length → ks'.length ≤ l'.length → (∀ j u v x y, j < i → ks[j]? = some u → ks'[j]? = some v → l[j]? = some x → l'[j]? = some y → cmpS u v = 0 ∧ cmpP x y = 0) → ks[i]? = some k → ks'[i]? = some k' → cmpS k k' ≠ 0 → cmpPm ks l ks' l' = cmpS k k'
  | _ :: ks, _ :: ks', _ :: l, _ :: l', 0, k, k', _, _, _, h1, h2, h => by
    simp only [List.getElem?_cons_zero, Option.some.injEq] at h1 h2
    subst h1 h2
    simp only [cmpPm, if_pos h]
  | a :: ks, b :: ks', x :: l, y :: l', i + 1, k, k', hl, hl', hall, h1, h2, h => by
    have h0 := hall 0 a b x y (by omega) rfl rfl rfl rfl
    simp only [cmpPm]
    rw [if_neg (by rw [h0.1]; simp), if_neg (by rw [h0.2]; simp)]
    exact cmpPm_ne1 (i := i) (by simpa using hl) (by simpa using hl') (fun j u v x y hj a1 a2 a3 a4 => hall (j + 1) u v x y (by omega) (by simpa using a1) (by simpa using a2) (by simpa using a3) (by simpa using a4)) (by simpa using h1) (by simpa using h2) h
  | [], _, _, _, _, _, _, _, _, _, h1, _, _ => by simp at h1
  | _ :: _, [], _, _, _, _, _, _, _, _, _, h2, _ => by simp at h2
  | _ :: _, _ :: _, [], _, _, _, _, hl, _, _, _, _, _ => by simp at hl
  | _ :: _, _ :: _, _ :: _, [], _, _, _, _, hl', _, _, _, _ => by simp at hl'
theorem cmpPm_ne2 : ∀ {ks ks' : List ByteArray} {l l' : List GV} {i : Nat} {k k' : ByteArray} {x y : GV}, ks.length ≤ l.length → ks'.length ≤ l'.length → (∀ j u v x y, j < i → ks[j]? = some u → ks'[j]? = some v → l[j]? = some x → l'[j]? = some y → cmpS u v = 0 ∧ cmpP x y = 0) → ks[i]? = some k → ks'[i]? = some k' → l[i]? = some x → l'[i]? = some y → cmpS k k' = 0 → cmpP x y ≠ 0 → cmpPm ks l ks' l' = cmpP x y
  | _ :: ks, _ :: ks', _ :: l, _ :: l', 0, k, k', x, y, _, _, _, h1, h2, h3, h4, h, h' => by
    simp only [List.getElem?_cons_zero, Option.some.injEq] at h1 h2 h3 h4
    subst h1 h2 h3 h4
    simp only [cmpPm]
    rw [if_neg (by rw [h]; simp), if_pos h']
  | a :: ks, b :: ks', x' :: l, y' :: l', i + 1, k, k', x, y, hl, hl', hall, h1, h2, h3, h4, h, h' => by
    have h0 := hall 0 a b x' y' (by omega) rfl rfl rfl rfl
    simp only [cmpPm]
    rw [if_neg (by rw [h0.1]; simp), if_neg (by rw [h0.2]; simp)]
    exact cmpPm_ne2 (i := i) (by simpa using hl) (by simpa using hl') (fun j u v x y hj a1 a2 a3 a4 => hall (j + 1) u v x y (by omega) (by simpa using a1) (by simpa using a2) (by simpa using a3) (by simpa using a4)) (by simpa using h1) (by simpa using h2) (by simpa using h3) (by simpa using h4) h h'
  | [], _, _, _, _, _, _, _, _, _, _, _, h1, _, _, _, _, _ => by simp at h1
  | _ :: _, [], _, _, _, _, _, _, _, _, _, _, _, h2, _, _, _, _ => by simp at h2
  | _ :: _, _ :: _, [], _, _, _, _, _, _, hl, _, _, _, _, _, _, _, _ => by simp at hl
  | _ :: _, _ :: _, _ :: _, [], _, _, _, _, _, _, hl', _, _, _, _, _, _, _ => by simp at hl'
theorem cmpPm_end : ∀ {ks ks' : List ByteArray} {l l' : List GV}, ks.length ≤ l.length → ks'.length ≤ l'.length → (∀ (j : Nat) (u v : ByteArray) (x y : GV), ks[j]? = some u → ks'[j]? = some v → l[j]? = some x → l'[j]? = some y → cmpS u v = 0 ∧ cmpP x y = 0) → cmpPm ks l ks' l' = cmpI ks.length ks'.length
  | [], ks', l, l', _, _, _ => by simp only [cmpPm]
  | _ :: _, [], l, l', _, _, _ => by cases l <;> simp only [cmpPm]
  | _ :: _, _ :: _, [], _, hl, _, _ => by simp at hl
  | _ :: _, _ :: _, _ :: _, [], _, hl', _ => by simp at hl'
  | a :: ks, b :: ks', x :: l, y :: l', hl, hl', hall => by
    have h0 := hall 0 a b x y rfl rfl rfl rfl
    simp only [cmpPm]
    rw [if_neg (by rw [h0.1]; simp), if_neg (by rw [h0.2]; simp), cmpPm_end (by simpa using hl) (by simpa using hl') (fun j u v x y a1 a2 a3 a4 => hall (j + 1) u v x y (by simpa using a1) (by simpa using a2) (by simpa using a3) (by simpa using a4))]
    unfold cmpI
    simp
end Go.Proofs.YtbbacpdbbmjblaaGreat
end
section
set_option linter.unusedVariables false
namespace Go.Proofs.YtbbacpdbbmjblaaGreat
open Go.RowKit
set_option linter.unusedSimpArgs false
theorem ordV_p (x : GV) : PCall Tryz.prog 34 [qV x] (.val (.bool (ordV x))) := by
  have := pcall_V1s (P := Tryz.prog) (f := 34) (x := x) (u := .bool (ordV x)) trivial (fun w v hv => (ord_any x).use w v hv)
  rw [pdV_eq] at this
  exact this
theorem number_p (x : GV) : PCall Tryz.prog 113 [qV x] (.val (.bool (isNum x))) := by
  have := pcall_V1s (P := Tryz.prog) (f := 113) (x := x) (u := .bool (isNum x)) trivial (fun w v hv => number_any x w v hv)
  rw [pdV_eq] at this
  exact this
theorem fits_f {x : GV} (h : Fits (qV x)) : (Lit.float .f64 x.f).wf = true := by
  obtain ⟨w, F, v, hv⟩ := h.aggAt 2 (d := .val (.float .f64 x.f)) rfl
  unfold Rep at hv
  exact hv.2
theorem asFloat_p (x : GV) : PCall Tryz.prog 114 [qV x] (.val (.float .f64 (asF x))) := by
  refine pcall_fits fun hf => ?_
  have hx := fits_f (hf _ (List.mem_singleton.2 rfl))
  have := pcall_V1s (P := Tryz.prog) (f := 114) (x := x) (u := .float .f64 (asF x)) (by
    show (Lit.float .f64 (asF x)).wf = true
    unfold asF
    split
    · exact floatOfInt_wf _ _
    · exact hx) (fun w v hv => asFloat_any x w v hv)
  rw [pdV_eq] at this
  exact this
theorem clean_p (x : GV) : PCall Tryz.prog 47 [qV x] (qV (cleanV x)) := by
  have := pcall_V1V (P := Tryz.prog) (f := 47) (x := x) (y := cleanV x) (fun w v hv => (clean_any x).use w v hv)
  rw [pdV_eq, pdV_eq] at this
  exact this
mutual
/-- Two plain values are equal. -/
def eqP : GV → GV → Bool
  | .mk k n f s ks l, .mk k' n' f' s' ks' l' =>
    if (isNum (.mk k n f s ks l) && isNum (.mk k' n' f' s' ks' l')) = true then
      (if k = 2 ∧ k' = 2 then decide (n = n') else feq (asF (.mk k n f s ks l)) (asF (.mk k' n' f' s' ks' l')))
    else decide (k = k') && (decide (n = n') && (decide (s = s') && (decide (ks = ks') && eqPs l l')))
def eqPs : List GV → List GV → Bool
  | [], [] => true
  | x :: r, y :: q => eqP x y && eqPs r q
  | _, _ => false
end
theorem eqPs_len : ∀ {a b : List GV}, eqPs a b = true → a.length = b.length
  | [], [], _ => rfl
  | x :: r, y :: q, h => by
    unfold eqPs at h
    simp only [Bool.and_eq_true] at h
    simp [eqPs_len h.2]
  | [], _ :: _, h => by simp [eqPs] at h
  | _ :: _, [], h => by simp [eqPs] at h
theorem eqPs_true : ∀ {a b : List GV}, a.length = b.length → (∀ (i : Nat) (x y : GV), a[i]? = some x → b[i]? = some y → eqP x y = true) → eqPs a b = true
  | [], [], _, _ => by unfold eqPs; rfl
  | x :: r, y :: q, hl, h => by
    unfold eqPs
    rw [h 0 x y rfl rfl, eqPs_true (by simpa using hl) (fun i x y hx hy => h (i + 1) x y (by simpa using hx) (by simpa using hy))]
    rfl
  | [], _ :: _, hl, _ => by simp at hl
  | _ :: _, [], hl, _ => by simp at hl
theorem eqPs_false : ∀ {a b : List GV} {i : Nat} {x y : GV}, a[i]? = some x → b[i]? = some y → eqP x y = false → eqPs a b = false
  | x' :: r, y' :: q, 0, x, y, hx, hy, h => by
    simp only [List.getElem?_cons_zero, Option.some.injEq] at hx hy
    subst hx hy
    unfold eqPs
    rw [h]; rfl
  | x' :: r, y' :: q, i + 1, x, y, hx, hy, h => by
    unfold eqPs
    rw [eqPs_false (by simpa using hx) (by simpa using hy) h]
    simp
  | [], _, _, _, _, hx, _, _ => by simp at hx
  | _ :: _, [], _, _, _, _, hy, _ => by simp at hy
theorem eqPs_all {a b : List GV} (h : eqPs a b = true) (i : Nat) (x y : GV) (hx : a[i]? = some x) (hy : b[i]? = some y) : eqP x y = true := by
  cases e : eqP x y with
  | true => rfl
  | false => rw [eqPs_false hx hy e] at h; cases h
set_option maxHeartbeats 4000000 in
theorem eqP_num (x y : GV) (h : (isNum x && isNum y) = true) : PCall Tryz.prog 83 [qV x, qV y] (.val (.bool (eqP x y))) := by
  obtain ⟨k, n, f, s, ks, l⟩ := x
  obtain ⟨k', n', f', s', ks', l'⟩ := y
  have c1 := number_p (.mk k n f s ks l)
  have c2 := number_p (.mk k' n' f' s' ks' l')
  have c3 := asFloat_p (.mk k n f s ks l)
  have c4 := asFloat_p (.mk k' n' f' s' ks' l')
  have hn := h
  simp only [Bool.and_eq_true] at hn
  rw [hn.1] at c1
  rw [hn.2] at c2
  have e : eqP (.mk k n f s ks l) (.mk k' n' f' s' ks' l') = if k = 2 ∧ k' = 2 then decide (n = n') else feq (asF (.mk k n f s ks l)) (asF (.mk k' n' f' s' ks' l')) := by
    unfold eqP; rw [if_pos h]
  rw [e]
  clear e h hn
  generalize asF (.mk k n f s ks l) = A at *
  generalize asF (.mk k' n' f' s' ks' l') = B at *
  refine pcall_of_run Tryz.func83 rfl Tryz.ntmps83 rfl (fun X => ?_)
  by_cases hk : k = 2
  · have q1 : decide (k = 2) = true := by simpa using hk
    by_cases hk' : k' = 2
    · have q2 : decide (k' = 2) = true := by simpa using hk'
      rw [if_pos ⟨hk, hk'⟩]
      repeat' (first
    | refine run_seq ?_
    | (refine k_pick rfl ?_; first | refine k_assignD rfl rfl ?_ | refine k_moveD rfl rfl ?_ | refine k_fieldAddrB rfl rfl rfl ?_ | refine k_loadW rfl rfl rfl (by first | rfl | (simp only [cellsD]; rfl)) ?_ | refine k_loadBD rfl rfl rfl (by first | rfl | (simp only [cellsD]; rfl)) ?_ | refine k_bin2B rfl rfl rfl rfl ?_ | refine k_pickT rfl rfl (by first | rfl | assumption) rfl ?_ | refine k_boxW rfl rfl rfl (by first | rfl | (simp only [cellsD]; rfl)) ?_ | refine k_call rfl (by kernel_rfl) rfl (by first | exact c1 | exact c2 | exact c3 | exact c4) ?_)
    | refine run_opsEnd ?_
    | refine run_region ?_
    | refine run_condT rfl (by first | rfl | assumption) ?_
    | (refine k_guardY rfl rfl (by first | rfl | assumption) ?_; first | refine k_fieldAddrB rfl rfl rfl ?_ | refine k_loadW rfl rfl rfl (by first | rfl | (simp only [cellsD]; rfl)) ?_ | refine k_loadBD rfl rfl rfl (by first | rfl | (simp only [cellsD]; rfl)) ?_ | refine k_bin2B rfl rfl rfl rfl ?_ | refine k_call rfl (by kernel_rfl) rfl (by first | exact c1 | exact c2 | exact c3 | exact c4) ?_)
    | refine run_retOk (resOk_tmp rfl rfl ?_)
    | fail)
      all_goals exact PLe.refl _
    · have q2 : decide (k' = 2) = false := by simpa using hk'
      rw [if_neg (fun h => hk' h.2)]
      repeat' (first
    | refine run_seq ?_
    | (refine k_pick rfl ?_; first | refine k_assignD rfl rfl ?_ | refine k_moveD rfl rfl ?_ | refine k_fieldAddrB rfl rfl rfl ?_ | refine k_loadW rfl rfl rfl (by first | rfl | (simp only [cellsD]; rfl)) ?_ | refine k_loadBD rfl rfl rfl (by first | rfl | (simp only [cellsD]; rfl)) ?_ | refine k_bin2B rfl rfl rfl rfl ?_ | refine k_pickT rfl rfl (by first | rfl | assumption) rfl ?_ | refine k_boxW rfl rfl rfl (by first | rfl | (simp only [cellsD]; rfl)) ?_ | refine k_call rfl (by kernel_rfl) rfl (by first | exact c1 | exact c2 | exact c3 | exact c4) ?_)
    | refine run_opsEnd ?_
    | refine run_region ?_
    | refine run_condT rfl (by first | rfl | assumption) ?_
    | refine run_condF rfl (by first | rfl | assumption) ?_
    | (refine k_guardY rfl rfl (by first | rfl | assumption) ?_; first | refine k_fieldAddrB rfl rfl rfl ?_ | refine k_loadW rfl rfl rfl (by first | rfl | (simp only [cellsD]; rfl)) ?_ | refine k_loadBD rfl rfl rfl (by first | rfl | (simp only [cellsD]; rfl)) ?_ | refine k_bin2B rfl rfl rfl rfl ?_ | refine k_call rfl (by kernel_rfl) rfl (by first | exact c1 | exact c2 | exact c3 | exact c4) ?_)
    | refine run_skip ?_
    | refine run_retOk (resOk_tmp rfl rfl ?_)
    | refine run_drawC (by kernel_rfl) ?_
    | refine c_nil (And.intro (by kernel_rfl) ?_)
    | refine c_pick (d_assignD rfl rfl) ?_
    | refine c_pick (d_loadW rfl rfl rfl (by first | rfl | (simp only [cellsD]; rfl))) ?_
    | refine c_pick (d_call rfl (by kernel_rfl) rfl (by first | exact c1 | exact c2 | exact c3 | exact c4)) ?_
    | refine c_pick (d_fltC rfl rfl rfl rfl) ?_
    | fail)
      all_goals exact PLe.refl _
  · have q1 : decide (k = 2) = false := by simpa using hk
    rw [if_neg (fun h => hk h.1)]
    repeat' (first
    | refine run_seq ?_
    | (refine k_pick rfl ?_; first | refine k_assignD rfl rfl ?_ | refine k_moveD rfl rfl ?_ | refine k_fieldAddrB rfl rfl rfl ?_ | refine k_loadW rfl rfl rfl (by first | rfl | (simp only [cellsD]; rfl)) ?_ | refine k_loadBD rfl rfl rfl (by first | rfl | (simp only [cellsD]; rfl)) ?_ | refine k_bin2B rfl rfl rfl rfl ?_ | refine k_pickT rfl rfl (by first | rfl | assumption) rfl ?_ | refine k_pickF rfl rfl (by first | rfl | assumption) rfl ?_ | refine k_boxW rfl rfl rfl (by first | rfl | (simp only [cellsD]; rfl)) ?_ | refine k_call rfl (by kernel_rfl) rfl (by first | exact c1 | exact c2 | exact c3 | exact c4) ?_)
    | refine run_opsEnd ?_
    | refine run_region ?_
    | refine run_condT rfl (by first | rfl | assumption) ?_
    | refine run_condF rfl (by first | rfl | assumption) ?_
    | (refine k_guardY rfl rfl (by first | rfl | assumption) ?_; first | refine k_loadW rfl rfl rfl (by first | rfl | (simp only [cellsD]; rfl)) ?_ | refine k_call rfl (by kernel_rfl) rfl (by first | exact c1 | exact c2 | exact c3 | exact c4) ?_)
    | refine k_guardNT rfl rfl (by first | rfl | assumption) rfl ?_
    | refine run_skip ?_
    | refine run_retOk (resOk_tmp rfl rfl ?_)
    | refine run_drawC (by kernel_rfl) ?_
    | refine c_nil (And.intro (by kernel_rfl) ?_)
    | refine c_pick (d_assignD rfl rfl) ?_
    | refine c_pick (d_loadW rfl rfl rfl (by first | rfl | (simp only [cellsD]; rfl))) ?_
    | refine c_pick (d_call rfl (by kernel_rfl) rfl (by first | exact c1 | exact c2 | exact c3 | exact c4)) ?_
    | refine c_pick (d_fltC rfl rfl rfl rfl) ?_
    | fail)
    all_goals exact PLe.refl _
set_option maxHeartbeats 8000000 in
theorem eqP_oth (x y : GV) (h : (isNum x && isNum y) = false) (ih : ∀ a ∈ x.l, ∀ b ∈ y.l, PCall Tryz.prog 83 [qV a, qV b] (.val (.bool (eqP a b)))) : PCall Tryz.prog 83 [qV x, qV y] (.val (.bool (eqP x y))) := by
  obtain ⟨k, n, f, s, ks, l⟩ := x
  obtain ⟨k', n', f', s', ks', l'⟩ := y
  refine pcall_fits fun hfit => ?_
  have b1 := (Fits.aggAt (hfit (qV (.mk k n f s ks l)) (by simp)) 4 (d := .sl 1 16 (pdS ks)) rfl).sl.2.1
  have b2 := (Fits.aggAt (hfit (qV (.mk k n f s ks l)) (by simp)) 5 (d := .sl 6 88 (pdVs l)) rfl).sl.2.1
  rw [pdS_len] at b1
  rw [pdVs_len] at b2
  clear hfit
  have c1 := number_p (.mk k n f s ks l)
  have c2 := number_p (.mk k' n' f' s' ks' l')
  have e : eqP (.mk k n f s ks l) (.mk k' n' f' s' ks' l') = (decide (k = k') && (decide (n = n') && (decide (s = s') && (decide (ks = ks') && eqPs l l')))) := by
    unfold eqP; rw [if_neg (by rw [h]; simp)]
  rw [e]
  clear e
  have ih : ∀ a ∈ l, ∀ b ∈ l', PCall Tryz.prog 83 [qV a, qV b] (.val (.bool (eqP a b))) := ih
  generalize isNum (.mk k n f s ks l) = p1 at *
  generalize isNum (.mk k' n' f' s' ks' l') = p2 at *
  have hlk := pdS_len ks
  have hlk' := pdS_len ks'
  have hll := pdVs_len l
  have hll' := pdVs_len l'
  refine pcall_of_run Tryz.func83 rfl Tryz.ntmps83 rfl (fun X => ?_)
  by_cases e1 : k = k'
  rotate_left
  · have q1 : decide (k ≠ k') = true := by simpa using e1
    rw [show decide (k = k') = false by simpa using e1, Bool.false_and]
    cases p1 <;> cases p2 <;> first | cases h | skip
    all_goals
      repeat' (first
    | refine run_seq ?_
    | (refine k_pick rfl ?_; first | refine k_assignD rfl rfl ?_ | refine k_moveD rfl rfl ?_ | refine k_fieldAddrB rfl rfl rfl ?_ | refine k_loadW rfl rfl rfl (by first | rfl | (simp only [cellsD]; rfl)) ?_ | refine k_loadBD rfl rfl rfl (by first | rfl | (simp only [cellsD]; rfl)) ?_ | refine k_bin2B rfl rfl rfl rfl ?_ | refine k_pickT rfl rfl (by first | rfl | assumption) rfl ?_ | refine k_pickF rfl rfl (by first | rfl | assumption) rfl ?_ | refine k_boxW rfl rfl rfl (by first | rfl | (simp only [cellsD]; rfl)) ?_ | refine k_call rfl (by kernel_rfl) rfl (by first | exact c1 | exact c2) ?_)
    | refine run_opsEnd ?_
    | refine run_region ?_
    | refine run_condT rfl (by first | rfl | assumption) ?_
    | refine run_condF rfl (by first | rfl | assumption) ?_
    | (refine k_guardY rfl rfl (by first | rfl | assumption) ?_; first | refine k_loadW rfl rfl rfl (by first | rfl | (simp only [cellsD]; rfl)) ?_ | refine k_call rfl (by kernel_rfl) rfl (by first | exact c1 | exact c2) ?_)
    | refine k_guardNT rfl rfl (by first | rfl | assumption) rfl ?_
    | refine k_guardNF rfl rfl (by first | rfl | assumption) rfl ?_
    | refine run_skip ?_
    | refine run_retOk (resOk_tmp rfl rfl ?_)
    | fail)
    all_goals exact PLe.refl _
  have q1 : decide (k ≠ k') = false := by simpa using e1
  rw [show decide (k = k') = true by simpa using e1, Bool.true_and]
  by_cases e2 : n = n'
  rotate_left
  · have q2 : decide (n ≠ n') = true := by simpa using e2
    rw [show decide (n = n') = false by simpa using e2, Bool.false_and]
    cases p1 <;> cases p2 <;> first | cases h | skip
    all_goals
      repeat' (first
    | refine run_seq ?_
    | (refine k_pick rfl ?_; first | refine k_assignD rfl rfl ?_ | refine k_moveD rfl rfl ?_ | refine k_fieldAddrB rfl rfl rfl ?_ | refine k_loadW rfl rfl rfl (by first | rfl | (simp only [cellsD]; rfl)) ?_ | refine k_loadBD rfl rfl rfl (by first | rfl | (simp only [cellsD]; rfl)) ?_ | refine k_bin2B rfl rfl rfl rfl ?_ | refine k_pickT rfl rfl (by first | rfl | assumption) rfl ?_ | refine k_pickF rfl rfl (by first | rfl | assumption) rfl ?_ | refine k_boxW rfl rfl rfl (by first | rfl | (simp only [cellsD]; rfl)) ?_ | refine k_call rfl (by kernel_rfl) rfl (by first | exact c1 | exact c2) ?_)
    | refine run_opsEnd ?_
    | refine run_region ?_
    | refine run_condT rfl (by first | rfl | assumption) ?_
    | refine run_condF rfl (by first | rfl | assumption) ?_
    | (refine k_guardY rfl rfl (by first | rfl | assumption) ?_; first | refine k_fieldAddrB rfl rfl rfl ?_ | refine k_loadW rfl rfl rfl (by first | rfl | (simp only [cellsD]; rfl)) ?_ | refine k_loadBD rfl rfl rfl (by first | rfl | (simp only [cellsD]; rfl)) ?_ | refine k_bin2B rfl rfl rfl rfl ?_ | refine k_call rfl (by kernel_rfl) rfl (by first | exact c1 | exact c2) ?_)
    | refine k_guardNT rfl rfl (by first | rfl | assumption) rfl ?_
    | refine k_guardNF rfl rfl (by first | rfl | assumption) rfl ?_
    | refine run_skip ?_
    | refine run_retOk (resOk_tmp rfl rfl ?_)
    | fail)
    all_goals exact PLe.refl _
  have q2 : decide (n ≠ n') = false := by simpa using e2
  rw [show decide (n = n') = true by simpa using e2, Bool.true_and]
  by_cases e3 : s = s'
  rotate_left
  · have q3 : decide (s ≠ s') = true := by simpa using e3
    rw [show decide (s = s') = false by simpa using e3, Bool.false_and]
    cases p1 <;> cases p2 <;> first | cases h | skip
    all_goals
      repeat' (first
    | refine run_seq ?_
    | (refine k_pick rfl ?_; first | refine k_assignD rfl rfl ?_ | refine k_moveD rfl rfl ?_ | refine k_fieldAddrB rfl rfl rfl ?_ | refine k_loadW rfl rfl rfl (by first | rfl | (simp only [cellsD]; rfl)) ?_ | refine k_loadBD rfl rfl rfl (by first | rfl | (simp only [cellsD]; rfl)) ?_ | refine k_bin2B rfl rfl rfl rfl ?_ | refine k_pickT rfl rfl (by first | rfl | assumption) rfl ?_ | refine k_pickF rfl rfl (by first | rfl | assumption) rfl ?_ | refine k_boxW rfl rfl rfl (by first | rfl | (simp only [cellsD]; rfl)) ?_ | refine k_call rfl (by kernel_rfl) rfl (by first | exact c1 | exact c2) ?_)
    | refine run_opsEnd ?_
    | refine run_region ?_
    | refine run_condT rfl (by first | rfl | assumption) ?_
    | refine run_condF rfl (by first | rfl | assumption) ?_
    | (refine k_guardY rfl rfl (by first | rfl | assumption) ?_; first | refine k_fieldAddrB rfl rfl rfl ?_ | refine k_loadW rfl rfl rfl (by first | rfl | (simp only [cellsD]; rfl)) ?_ | refine k_loadBD rfl rfl rfl (by first | rfl | (simp only [cellsD]; rfl)) ?_ | refine k_bin2B rfl rfl rfl rfl ?_ | refine k_call rfl (by kernel_rfl) rfl (by first | exact c1 | exact c2) ?_)
    | refine k_guardNT rfl rfl (by first | rfl | assumption) rfl ?_
    | refine run_skip ?_
    | refine run_retOk (resOk_tmp rfl rfl ?_)
    | fail)
    all_goals exact PLe.refl _
  have q3 : decide (s ≠ s') = false := by simpa using e3
  rw [show decide (s = s') = true by simpa using e3, Bool.true_and]
  by_cases e4 : ks.length = ks'.length
  rotate_left
  · have q4 : decide ((((pdS ks).length : Nat) : Int) ≠ (((pdS ks').length : Nat) : Int)) = true := by rw [hlk, hlk']; simp; omega
    rw [show decide (ks = ks') = false by
      simp only [decide_eq_false_iff_not]; exact fun h => e4 (by rw [h]), Bool.false_and]
    cases p1 <;> cases p2 <;> first | cases h | skip
    all_goals
      repeat' (first
    | refine run_seq ?_
    | (refine k_pick rfl ?_; first | refine k_assignD rfl rfl ?_ | refine k_moveD rfl rfl ?_ | refine k_fieldAddrB rfl rfl rfl ?_ | refine k_loadW rfl rfl rfl (by first | rfl | (simp only [cellsD]; rfl)) ?_ | refine k_loadBD rfl rfl rfl (by first | rfl | (simp only [cellsD]; rfl)) ?_ | refine k_bin2B rfl rfl rfl rfl ?_ | refine k_pickT rfl rfl (by first | rfl | assumption) rfl ?_ | refine k_pickF rfl rfl (by first | rfl | assumption) rfl ?_ | refine k_boxW rfl rfl rfl (by first | rfl | (simp only [cellsD]; rfl)) ?_ | refine k_call rfl (by kernel_rfl) rfl (by first | exact c1 | exact c2) ?_ | refine k_lenD rfl rfl ?_)
    | refine run_opsEnd ?_
    | refine run_region ?_
    | refine run_condT rfl (by first | rfl | assumption) ?_
    | refine run_condF rfl (by first | rfl | assumption) ?_
    | (refine k_guardY rfl rfl (by first | rfl | assumption) ?_; first | refine k_fieldAddrB rfl rfl rfl ?_ | refine k_loadW rfl rfl rfl (by first | rfl | (simp only [cellsD]; rfl)) ?_ | refine k_loadBD rfl rfl rfl (by first | rfl | (simp only [cellsD]; rfl)) ?_ | refine k_bin2B rfl rfl rfl rfl ?_ | refine k_call rfl (by kernel_rfl) rfl (by first | exact c1 | exact c2) ?_)
    | refine k_guardNT rfl rfl (by first | rfl | assumption) rfl ?_
    | refine k_guardNF rfl rfl (by first | rfl | assumption) rfl ?_
    | refine run_skip ?_
    | refine run_retOk (resOk_tmp rfl rfl ?_)
    | fail)
    all_goals exact PLe.refl _
  have q4 : decide ((((pdS ks).length : Nat) : Int) ≠ (((pdS ks').length : Nat) : Int)) = false := by rw [hlk, hlk']; simp; omega
  by_cases e5 : l.length = l'.length
  rotate_left
  · have q5 : decide ((((pdVs l).length : Nat) : Int) ≠ (((pdVs l').length : Nat) : Int)) = true := by rw [hll, hll']; simp; omega
    rw [show eqPs l l' = false by
      cases h : eqPs l l' with
      | false => rfl
      | true => exact absurd (eqPs_len h) e5, Bool.and_false]
    cases p1 <;> cases p2 <;> first | cases h | skip
    all_goals
      repeat' (first
    | refine run_seq ?_
    | (refine k_pick rfl ?_; first | refine k_assignD rfl rfl ?_ | refine k_moveD rfl rfl ?_ | refine k_fieldAddrB rfl rfl rfl ?_ | refine k_loadW rfl rfl rfl (by first | rfl | (simp only [cellsD]; rfl)) ?_ | refine k_loadBD rfl rfl rfl (by first | rfl | (simp only [cellsD]; rfl)) ?_ | refine k_bin2B rfl rfl rfl rfl ?_ | refine k_pickT rfl rfl (by first | rfl | assumption) rfl ?_ | refine k_pickF rfl rfl (by first | rfl | assumption) rfl ?_ | refine k_boxW rfl rfl rfl (by first | rfl | (simp only [cellsD]; rfl)) ?_ | refine k_call rfl (by kernel_rfl) rfl (by first | exact c1 | exact c2) ?_ | refine k_lenD rfl rfl ?_)
    | refine run_opsEnd ?_
    | refine run_region ?_
    | refine run_condT rfl (by first | rfl | assumption) ?_
    | refine run_condF rfl (by first | rfl | assumption) ?_
    | (refine k_guardY rfl rfl (by first | rfl | assumption) ?_; first | refine k_fieldAddrB rfl rfl rfl ?_ | refine k_loadW rfl rfl rfl (by first | rfl | (simp only [cellsD]; rfl)) ?_ | refine k_loadBD rfl rfl rfl (by first | rfl | (simp only [cellsD]; rfl)) ?_ | refine k_bin2B rfl rfl rfl rfl ?_ | refine k_call rfl (by kernel_rfl) rfl (by first | exact c1 | exact c2) ?_ | refine k_lenD rfl rfl ?_)
    | refine k_guardNT rfl rfl (by first | rfl | assumption) rfl ?_
    | refine run_skip ?_
    | refine run_retOk (resOk_tmp rfl rfl ?_)
    | fail)
    all_goals exact PLe.refl _
  have q5 : decide ((((pdVs l).length : Nat) : Int) ≠ (((pdVs l').length : Nat) : Int)) = false := by rw [hll, hll']; simp; omega
  refine run_weaken (s' := startSta [qV (.mk k n f s ks l), qV (.mk k' n' f' s' ks' l')]) (fun _ _ h => h) ?_
  cases p1 <;> cases p2 <;> first | cases h | skip
  all_goals
    repeat' (first
    | refine run_seq ?_
    | (refine k_pick rfl ?_; first | refine k_assignD rfl rfl ?_ | refine k_moveD rfl rfl ?_ | refine k_fieldAddrB rfl rfl rfl ?_ | refine k_loadW rfl rfl rfl (by first | rfl | (simp only [cellsD]; rfl)) ?_ | refine k_loadBD rfl rfl rfl (by first | rfl | (simp only [cellsD]; rfl)) ?_ | refine k_bin2B rfl rfl rfl rfl ?_ | refine k_pickT rfl rfl (by first | rfl | assumption) rfl ?_ | refine k_pickF rfl rfl (by first | rfl | assumption) rfl ?_ | refine k_boxW rfl rfl rfl (by first | rfl | (simp only [cellsD]; rfl)) ?_ | refine k_call rfl (by kernel_rfl) rfl (by first | exact c1 | exact c2) ?_ | refine k_lenD rfl rfl ?_)
    | refine run_opsEnd ?_
    | refine run_region ?_
    | refine run_condF rfl (by first | rfl | assumption) ?_
    | (refine k_guardY rfl rfl (by first | rfl | assumption) ?_; first | refine k_fieldAddrB rfl rfl rfl ?_ | refine k_loadW rfl rfl rfl (by first | rfl | (simp only [cellsD]; rfl)) ?_ | refine k_loadBD rfl rfl rfl (by first | rfl | (simp only [cellsD]; rfl)) ?_ | refine k_bin2B rfl rfl rfl rfl ?_ | refine k_call rfl (by kernel_rfl) rfl (by first | exact c1 | exact c2) ?_ | refine k_lenD rfl rfl ?_)
    | refine k_guardNT rfl rfl (by first | rfl | assumption) rfl ?_
    | refine run_block ?_
    | refine run_skip ?_
    | fail)
    refine run_loopS (ι := { j : Nat // j ≤ ks.length ∧ ∀ i, i < j → ks[i]? = ks'[i]? })
      (fun j => [(2, .ptr 2 0), (3, .ptr 3 0), (68, .dat (.val (.int .i64 ((pdS ks).length : Nat)))), (69, .dat (.val (.int .i64 (j.1 : Nat))))])
      (fun j => [(2, .box 27 (cellsD (qV (.mk k n f s ks l)))), (3, .box 27 (cellsD (qV (.mk k' n' f' s' ks' l'))))]) (fun j => ks.length - j.1) ⟨0, Nat.zero_le _, fun i h => absurd h (Nat.not_lt_zero i)⟩ id ?_ ?_
    · (refine ⟨?_, ?_, by rfl⟩ <;> repeat' (first | exact trivial | exact ALe.ptr rfl | exact ALe.own rfl | exact ALe.elt rfl | exact BLe.boxD _ _ | exact BLe.row rfl | exact BLe.res | exact BLe.dead rfl | exact ALe.dat (PLe.refl _) | exact CLe.nil | refine And.intro ?_ ?_ | refine ALe.iface ?_ | refine ALe.clo ?_ | refine CLe.cons ?_ ?_ | refine BLe.box ?_ | refine BLe.row ?_ | exact ALe.any _ | refine ALe.dat (PLe.of_eq ?_)))
    rintro ⟨j, hj, hall⟩
    by_cases hlt : j < ks.length
    · have hc : decide ((j : Int) < (((pdS ks).length : Nat) : Int)) = true := by rw [hlk]; simpa using hlt
      obtain ⟨x, hx⟩ : ∃ x, ks[j]? = some x := ⟨_, List.getElem?_eq_getElem hlt⟩
      obtain ⟨y, hy⟩ : ∃ y, ks'[j]? = some y := ⟨_, List.getElem?_eq_getElem (e4 ▸ hlt)⟩
      have i1 : (pdS ks)[((j : Nat) : Int).toNat]? = some (.val (.string x)) := pdS_at hx
      have i2 : (pdS ks')[((j : Nat) : Int).toNat]? = some (.val (.string y)) := pdS_at hy
      by_cases exy : x = y
      · have q6 : decide (x ≠ y) = false := by simpa using exy
        repeat' (first
    | refine run_seq ?_
    | (refine k_pick rfl ?_; first | refine k_assignD rfl rfl ?_ | refine k_moveD rfl rfl ?_ | refine k_bin2B rfl rfl rfl rfl ?_ | refine k_ariI rfl rfl rfl rfl (by first | omega | (dsimp only; omega)) ?_)
    | refine run_opsEnd ?_
    | refine run_region ?_
    | refine run_condT rfl (by first | rfl | assumption) ?_
    | refine run_condF rfl (by first | rfl | assumption) ?_
    | refine run_block ?_
    | refine run_blkEnd ?_
    | refine run_skip ?_
    | refine run_drawC (by kernel_rfl) ?_
    | refine c_nil (And.intro (by kernel_rfl) ?_)
    | refine c_pick (d_indexAddrD rfl rfl rfl (by first | omega | (dsimp only; omega)) (by assumption)) ?_
    | refine c_pick (d_moveD rfl rfl) ?_
    | refine c_pick (d_fieldAddrB rfl rfl rfl) ?_
    | refine c_pick (d_loadBD rfl rfl rfl (by first | rfl | (simp only [cellsD]; rfl))) ?_
    | refine c_pick (d_bin2B rfl rfl rfl rfl) ?_
    | refine c_pick (d_loadD rfl rfl (by first | rfl | (simp only [cellsD]; rfl))) ?_
    | fail)
        refine run_again ?_
        refine ⟨⟨j + 1, by omega, fun i hi => ?_⟩, id, by simp only; omega, ?_⟩
        · by_cases e : i = j
          · subst e; rw [hx, hy, exy]
          · exact hall i (by omega)
        (refine ⟨?_, ?_, by rfl⟩ <;> repeat' (first | exact trivial | exact ALe.ptr rfl | exact ALe.own rfl | exact ALe.elt rfl | exact BLe.boxD _ _ | exact BLe.row rfl | exact BLe.res | exact BLe.dead rfl | exact ALe.dat (PLe.refl _) | exact CLe.nil | refine And.intro ?_ ?_ | refine ALe.iface ?_ | refine ALe.clo ?_ | refine CLe.cons ?_ ?_ | refine BLe.box ?_ | refine BLe.row ?_ | exact ALe.any _ | refine ALe.dat (PLe.of_eq ?_)))
      · have q6 : decide (x ≠ y) = true := by simpa using exy
        rw [show decide (ks = ks') = false by
          simp only [decide_eq_false_iff_not]
          intro h; rw [h] at hx; rw [hx] at hy; exact exy (Option.some.inj hy), Bool.false_and]
        repeat' (first
    | refine run_seq ?_
    | (refine k_pick rfl ?_; first | refine k_assignD rfl rfl ?_ | refine k_moveD rfl rfl ?_ | refine k_bin2B rfl rfl rfl rfl ?_)
    | refine run_opsEnd ?_
    | refine run_region ?_
    | refine run_condT rfl (by first | rfl | assumption) ?_
    | refine run_block ?_
    | refine run_skip ?_
    | refine run_retOk (resOk_tmp rfl rfl ?_)
    | refine run_drawC (by kernel_rfl) ?_
    | refine c_nil (And.intro (by kernel_rfl) ?_)
    | refine c_pick (d_indexAddrD rfl rfl rfl (by first | omega | (dsimp only; omega)) (by assumption)) ?_
    | refine c_pick (d_moveD rfl rfl) ?_
    | refine c_pick (d_fieldAddrB rfl rfl rfl) ?_
    | refine c_pick (d_loadBD rfl rfl rfl (by first | rfl | (simp only [cellsD]; rfl))) ?_
    | refine c_pick (d_bin2B rfl rfl rfl rfl) ?_
    | refine c_pick (d_loadD rfl rfl (by first | rfl | (simp only [cellsD]; rfl))) ?_
    | fail)
        all_goals exact PLe.refl _
    · have hc : decide ((j : Int) < (((pdS ks).length : Nat) : Int)) = false := by rw [hlk]; simpa using hlt
      have ek : ks = ks' := by
        apply List.ext_getElem? 
        intro i
        by_cases hi : i < ks.length
        · exact hall i (by omega)
        · rw [List.getElem?_eq_none (by omega), List.getElem?_eq_none (by omega)]
      rw [show decide (ks = ks') = true by simpa using ek, Bool.true_and]
      repeat' (first
    | refine run_seq ?_
    | (refine k_pick rfl ?_; first | refine k_moveD rfl rfl ?_ | refine k_fieldAddrB rfl rfl rfl ?_ | refine k_loadBD rfl rfl rfl (by first | rfl | (simp only [cellsD]; rfl)) ?_ | refine k_bin2B rfl rfl rfl rfl ?_ | refine k_lenD rfl rfl ?_)
    | refine run_opsEnd ?_
    | refine run_region ?_
    | refine run_condF rfl (by first | rfl | assumption) ?_
    | refine run_block ?_
    | refine run_exit rfl ?_
    | fail)
      refine run_loopS (ι := { j : Nat // j ≤ l.length ∧ ∀ i x y, i < j → l[i]? = some x → l'[i]? = some y → eqP x y = true })
        (fun j => [(2, .ptr 2 0), (3, .ptr 3 0), (86, .dat (.val (.int .i64 ((pdVs l).length : Nat)))), (87, .dat (.val (.int .i64 (j.1 : Nat))))])
        (fun j => [(2, .box 27 (cellsD (qV (.mk k n f s ks l)))), (3, .box 27 (cellsD (qV (.mk k' n' f' s' ks' l'))))]) (fun j => l.length - j.1) ⟨0, Nat.zero_le _, fun i _ _ h => absurd h (Nat.not_lt_zero i)⟩ id ?_ ?_
      · (refine ⟨?_, ?_, by rfl⟩ <;> repeat' (first | exact trivial | exact ALe.ptr rfl | exact ALe.own rfl | exact ALe.elt rfl | exact BLe.boxD _ _ | exact BLe.row rfl | exact BLe.res | exact BLe.dead rfl | exact ALe.dat (PLe.refl _) | exact CLe.nil | refine And.intro ?_ ?_ | refine ALe.iface ?_ | refine ALe.clo ?_ | refine CLe.cons ?_ ?_ | refine BLe.box ?_ | refine BLe.row ?_ | exact ALe.any _ | refine ALe.dat (PLe.of_eq ?_)))
      clear hall hj hc hlt
      rintro ⟨j, hj, hall⟩
      by_cases hlt : j < l.length
      · have hc : decide ((j : Int) < (((pdVs l).length : Nat) : Int)) = true := by rw [hll]; simpa using hlt
        obtain ⟨x, hx⟩ : ∃ x, l[j]? = some x := ⟨_, List.getElem?_eq_getElem hlt⟩
        obtain ⟨y, hy⟩ : ∃ y, l'[j]? = some y := ⟨_, List.getElem?_eq_getElem (e5 ▸ hlt)⟩
        have i1 : (pdVs l)[((j : Nat) : Int).toNat]? = some (qV x) := by rw [show qV x = pdV x from (pdV_eq x).symm]; exact pdVs_at hx
        have i2 : (pdVs l')[((j : Nat) : Int).toNat]? = some (qV y) := by rw [show qV y = pdV y from (pdV_eq y).symm]; exact pdVs_at hy
        have hC := ih x (List.mem_of_getElem? hx) y (List.mem_of_getElem? hy)
        cases hr : eqP x y with
        | true =>
          rw [hr] at hC
          repeat' (first
    | refine run_seq ?_
    | (refine k_pick rfl ?_; first | refine k_assignD rfl rfl ?_ | refine k_moveD rfl rfl ?_ | refine k_bin2B rfl rfl rfl rfl ?_ | refine k_ariI rfl rfl rfl rfl (by first | omega | (dsimp only; omega)) ?_)
    | refine run_opsEnd ?_
    | refine run_region ?_
    | refine run_condT rfl (by first | rfl | assumption) ?_
    | refine run_condF rfl (by first | rfl | assumption) ?_
    | refine run_block ?_
    | refine run_blkEnd ?_
    | refine run_skip ?_
    | refine run_drawC (by kernel_rfl) ?_
    | refine c_nil (And.intro (by kernel_rfl) ?_)
    | refine c_pick (d_indexAddrD rfl rfl rfl (by first | omega | (dsimp only; omega)) (by assumption)) ?_
    | refine c_pick (d_moveD rfl rfl) ?_
    | refine c_pick (d_fieldAddrB rfl rfl rfl) ?_
    | refine c_pick (d_loadBD rfl rfl rfl (by first | rfl | (simp only [cellsD]; rfl))) ?_
    | refine c_pick (d_call rfl (by kernel_rfl) rfl (by first | exact hC)) ?_
    | refine c_pick (d_not rfl rfl) ?_
    | refine c_pick (d_loadD rfl rfl (by first | rfl | (simp only [cellsD]; rfl))) ?_
    | fail)
          refine run_again ?_
          refine ⟨⟨j + 1, by omega, fun i x' y' hi hx' hy' => ?_⟩, id, by simp only; omega, ?_⟩
          · by_cases e : i = j
            · subst e
              rw [hx] at hx'; rw [hy] at hy'
              cases hx'; cases hy'
              exact hr
            · exact hall i x' y' (by omega) hx' hy'
          (refine ⟨?_, ?_, by rfl⟩ <;> repeat' (first | exact trivial | exact ALe.ptr rfl | exact ALe.own rfl | exact ALe.elt rfl | exact BLe.boxD _ _ | exact BLe.row rfl | exact BLe.res | exact BLe.dead rfl | exact ALe.dat (PLe.refl _) | exact CLe.nil | refine And.intro ?_ ?_ | refine ALe.iface ?_ | refine ALe.clo ?_ | refine CLe.cons ?_ ?_ | refine BLe.box ?_ | refine BLe.row ?_ | exact ALe.any _ | refine ALe.dat (PLe.of_eq ?_)))
        | false =>
          rw [hr] at hC
          rw [eqPs_false hx hy hr]
          repeat' (first
    | refine run_seq ?_
    | (refine k_pick rfl ?_; first | refine k_assignD rfl rfl ?_ | refine k_moveD rfl rfl ?_ | refine k_bin2B rfl rfl rfl rfl ?_)
    | refine run_opsEnd ?_
    | refine run_region ?_
    | refine run_condT rfl (by first | rfl | assumption) ?_
    | refine run_block ?_
    | refine run_skip ?_
    | refine run_retOk (resOk_tmp rfl rfl ?_)
    | refine run_drawC (by kernel_rfl) ?_
    | refine c_nil (And.intro (by kernel_rfl) ?_)
    | refine c_pick (d_indexAddrD rfl rfl rfl (by first | omega | (dsimp only; omega)) (by assumption)) ?_
    | refine c_pick (d_moveD rfl rfl) ?_
    | refine c_pick (d_fieldAddrB rfl rfl rfl) ?_
    | refine c_pick (d_loadBD rfl rfl rfl (by first | rfl | (simp only [cellsD]; rfl))) ?_
    | refine c_pick (d_call rfl (by kernel_rfl) rfl (by first | exact hC)) ?_
    | refine c_pick (d_not rfl rfl) ?_
    | refine c_pick (d_loadD rfl rfl (by first | rfl | (simp only [cellsD]; rfl))) ?_
    | fail)
          all_goals exact PLe.refl _
      · have hc : decide ((j : Int) < (((pdVs l).length : Nat) : Int)) = false := by rw [hll]; simpa using hlt
        rw [eqPs_true e5 (fun i x y hx hy => hall i x y (by have := (List.getElem?_eq_some_iff.1 hx).1; omega) hx hy)]
        repeat' (first
    | refine run_seq ?_
    | (refine k_pick rfl ?_; first | refine k_assignD rfl rfl ?_ | refine k_bin2B rfl rfl rfl rfl ?_)
    | refine run_opsEnd ?_
    | refine run_region ?_
    | refine run_condF rfl (by first | rfl | assumption) ?_
    | refine run_exit rfl ?_
    | refine run_retOk (resOk_tmp rfl rfl ?_)
    | fail)
        all_goals exact PLe.refl _
theorem eqP_p : ∀ (x y : GV), PCall Tryz.prog 83 [qV x, qV y] (.val (.bool (eqP x y)))
  | .mk k n f s ks l, y => by
    cases h : isNum (.mk k n f s ks l) && isNum y with
    | true => exact eqP_num _ _ h
    | false => exact eqP_oth _ _ h (fun a ha b _ => eqP_p a b)
termination_by x => SizeOf.sizeOf x
decreasing_by
  simp_wf
  have ha : a ∈ l := ha
  have := List.sizeOf_lt_of_mem ha
  omega
theorem eqSpec_p (x y : GV) : PCall Tryz.prog 50 [qV x, qV y] (.val (.bool (eqP (cleanV x) (cleanV y)))) := by
  have c1 := clean_p x
  have c2 := clean_p y
  have c3 := eqP_p (cleanV x) (cleanV y)
  refine pcall_of_run Tryz.func50 rfl Tryz.ntmps50 rfl (fun X => ?_)
  repeat' (first
    | refine run_seq ?_
    | (refine k_pick rfl ?_; first | refine k_assignD rfl rfl ?_ | refine k_boxW rfl rfl rfl (by first | rfl | (simp only [cellsD]; rfl)) ?_)
    | refine run_opsEnd ?_
    | refine run_region ?_
    | refine run_retOk (resOk_tmp rfl rfl ?_)
    | refine run_drawC (by kernel_rfl) ?_
    | refine c_nil (And.intro (by kernel_rfl) ?_)
    | refine c_pick (d_assignD rfl rfl) ?_
    | refine c_pick (d_loadW rfl rfl rfl (by first | rfl | (simp only [cellsD]; rfl))) ?_
    | refine c_pick (d_call rfl (by kernel_rfl) rfl (by first | exact c1 | exact c2 | exact c3)) ?_
    | fail)
  all_goals exact PLe.refl _
end Go.Proofs.YtbbacpdbbmjblaaGreat
end
section
set_option linter.unusedVariables false
namespace Go.Proofs.YtbbacpdbbmjblaaGreat
set_option linter.unusedSimpArgs false
open Ieee
structure Tri (p q r : Int) : Prop where
  rp : p = -1 ∨ p = 0 ∨ p = 1
  rq : q = -1 ∨ q = 0 ∨ q = 1
  rr : r = -1 ∨ r = 0 ∨ r = 1
  zp : p = 0 → r = q
  zq : q = 0 → r = p
  lt : p = -1 → q = -1 → r = -1
  gt : p = 1 → q = 1 → r = 1
def rng (p : Int) : Prop := p = -1 ∨ p = 0 ∨ p = 1
def lx (a r : Int) : Int := if a ≠ 0 then a else r
theorem rng_lx {a r : Int} (h : rng a) (h' : rng r) : rng (lx a r) := by
  unfold rng lx at *
  split <;> assumption
theorem tri_lx {a b c p q r : Int} (h : Tri a b c) (hp : rng p) (hq : rng q) (hr : rng r) (h' : a = 0 → b = 0 → Tri p q r) : Tri (lx a p) (lx b q) (lx c r) := by
  obtain ⟨h1, h2, h3, h4, h5, h6, h7⟩ := h
  unfold rng at *
  unfold lx
  by_cases ha : a = 0
  · by_cases hb : b = 0
    · have hc : c = 0 := by rw [h4 ha, hb]
      rw [if_neg (by simp [ha]), if_neg (by simp [hb]), if_neg (by simp [hc])]
      exact h' ha hb
    · have hc := h4 ha
      rw [if_neg (by simp [ha]), if_pos hb, if_pos (by rw [hc]; exact hb), hc]
      constructor <;> omega
  · by_cases hb : b = 0
    · have hc := h5 hb
      rw [if_pos ha, if_neg (by simp [hb]), if_pos (by rw [hc]; exact ha), hc]
      constructor <;> omega
    · rw [if_pos ha, if_pos hb]
      by_cases hc : c = 0
      · rw [if_neg (by simp [hc])]
        constructor <;> omega
      · rw [if_pos hc]
        constructor <;> omega
theorem rng_cmpI (a b : Int) : rng (cmpI a b) := by
  unfold cmpI rng
  split
  · exact .inl rfl
  · split
    · exact .inr (.inr rfl)
    · exact .inr (.inl rfl)
theorem tri_cmpI (a b c : Int) : Tri (cmpI a b) (cmpI b c) (cmpI a c) := by
  have e : ∀ x y : Int, (cmpI x y = -1 ∧ x < y) ∨ (cmpI x y = 0 ∧ x = y) ∨ (cmpI x y = 1 ∧ y < x) := fun x y => by
    unfold cmpI
    by_cases h : x < y
    · rw [if_pos h]; exact .inl ⟨rfl, h⟩
    · rw [if_neg h]
      by_cases h' : y < x
      · rw [if_pos h']; exact .inr (.inr ⟨rfl, h'⟩)
      · rw [if_neg h']; exact .inr (.inl ⟨rfl, by omega⟩)
  have e1 := e a b
  have e2 := e b c
  have e3 := e a c
  constructor <;> omega
theorem cmpI_swap (a b : Int) : cmpI b a = - cmpI a b := by
  unfold cmpI
  by_cases h : a < b
  · rw [if_pos h, if_neg (by omega), if_pos h]; rfl
  · by_cases h' : b < a
    · rw [if_pos h', if_neg h, if_pos h']
    · rw [if_neg h', if_neg h, if_neg h, if_neg h']; rfl
theorem cmpI_zero {a b : Int} : cmpI a b = 0 ↔ a = b := by
  unfold cmpI
  by_cases h : a < b
  · rw [if_pos h]; constructor <;> intro h' <;> omega
  · rw [if_neg h]
    by_cases h' : b < a
    · rw [if_pos h']; constructor <;> intro h' <;> omega
    · rw [if_neg h']; constructor <;> intro h' <;> omega
theorem rng_cmpS (a b : ByteArray) : rng (cmpS a b) := by
  unfold cmpS rng
  split
  · exact .inl rfl
  · split
    · exact .inr (.inr rfl)
    · exact .inr (.inl rfl)
theorem cmpS_cases (a b : ByteArray) : (cmpS a b = -1 ∧ blt a b = true) ∨ (cmpS a b = 0 ∧ a = b) ∨ (cmpS a b = 1 ∧ blt b a = true) := by
  unfold cmpS
  cases h : blt a b with
  | true => exact .inl ⟨rfl, rfl⟩
  | false =>
    cases h' : blt b a with
    | true => exact .inr (.inr ⟨rfl, rfl⟩)
    | false => exact .inr (.inl ⟨rfl, blt_total h h'⟩)
theorem cmpS_zero {a b : ByteArray} : cmpS a b = 0 ↔ a = b := by
  constructor
  · intro h
    rcases cmpS_cases a b with h' | h' | h'
    · omega
    · exact h'.2
    · omega
  · rintro rfl
    rcases cmpS_cases a a with h' | h' | h'
    · rw [blt_irrefl] at h'; cases h'.2
    · exact h'.1
    · rw [blt_irrefl] at h'; cases h'.2
theorem cmpS_swap (a b : ByteArray) : cmpS b a = - cmpS a b := by
  rcases cmpS_cases a b with h | h | h
  · rw [h.1]; unfold cmpS; rw [if_neg (by rw [blt_asymm h.2]; simp), if_pos h.2]; rfl
  · rw [h.1, h.2]; rw [cmpS_zero.2 rfl]; rfl
  · rw [h.1]; unfold cmpS; rw [if_pos h.2]
theorem cmpS_neg {a b : ByteArray} (h : cmpS a b = -1) : blt a b = true := by
  rcases cmpS_cases a b with h' | h' | h'
  · exact h'.2
  · omega
  · omega
theorem tri_cmpS (a b c : ByteArray) : Tri (cmpS a b) (cmpS b c) (cmpS a c) := by
  refine ⟨rng_cmpS _ _, rng_cmpS _ _, rng_cmpS _ _, fun h => ?_, fun h => ?_, fun h h' => ?_, fun h h' => ?_⟩
  · rw [cmpS_zero.1 h]
  · rw [cmpS_zero.1 h]
  · unfold cmpS; rw [if_pos (blt_trans (cmpS_neg h) (cmpS_neg h'))]
  · have h1 := cmpS_swap a b
    have h2 := cmpS_swap b c
    have h3 := cmpS_swap a c
    have : cmpS c a = -1 := by
      unfold cmpS; rw [if_pos (blt_trans (cmpS_neg (a := c) (b := b) (by omega)) (cmpS_neg (a := b) (b := a) (by omega)))]
    omega
theorem signed_shift (s : Bool) (m u k : Nat) : signed s m (u + k) = signed s m u * (2 ^ k : Nat) := by
  unfold signed
  have : m <<< (u + k) = (m <<< u) * 2 ^ k := by rw [Nat.shiftLeft_eq, Nat.shiftLeft_eq, Nat.pow_add, Nat.mul_assoc]
  rw [this]
  cases s
  · simp only [Bool.false_eq_true, if_false]; push_cast; rfl
  · simp only [if_true]; push_cast; rw [Int.neg_mul]
/-- The key of a datum. -/
def keyD : Datum → Int × Int
  | .infinity s => (if s then -1 else 1, 0)
  | .number s m p => (0, signed s m (p + 1074).toNat)
  | .nan _ _ => (0, 0)
def cmpK (a b : Int × Int) : Int := lx (cmpI a.1 b.1) (cmpI a.2 b.2)
theorem tri_cmpK (a b c : Int × Int) : Tri (cmpK a b) (cmpK b c) (cmpK a c) := tri_lx (tri_cmpI _ _ _) (rng_cmpI _ _) (rng_cmpI _ _) (rng_cmpI _ _) (fun _ _ => tri_cmpI _ _ _)
theorem cmpI_mul {a b : Int} (k : Nat) (hk : 0 < k) : cmpI (a * (k : Int)) (b * (k : Int)) = cmpI a b := by
  unfold cmpI
  have hk : (0 : Int) < k := by omega
  have e : ∀ x y : Int, x * (k : Int) < y * (k : Int) ↔ x < y := fun x y => ⟨fun h => Int.lt_of_mul_lt_mul_right h (Int.le_of_lt hk), fun h => Int.mul_lt_mul_of_pos_right h hk⟩
  simp only [e]
def ordI : Option Ordering → Int
  | some .lt => -1
  | some .gt => 1
  | _ => 0
theorem ordI_compare (a b : Int) : ordI (some (compare a b)) = cmpI a b := by
  unfold cmpI
  by_cases h : a < b
  · rw [if_pos h, show compare a b = .lt from Int.compare_eq_lt.2 h]; rfl
  · rw [if_neg h]
    by_cases h' : b < a
    · rw [if_pos h', show compare a b = .gt from Int.compare_eq_gt.2 h']; rfl
    · rw [if_neg h', show compare a b = .eq from Int.compare_eq_eq.2 (by omega)]; rfl
def okD : Datum → Prop
  | .number _ _ p => -1074 ≤ p
  | .infinity _ => True
  | .nan _ _ => False
theorem order_key {d e : Datum} (hd : okD d) (he : okD e) : ordI (d.order e) = cmpK (keyD d) (keyD e) := by
  cases d with
  | nan _ _ => exact hd.elim
  | infinity s =>
    cases e with
    | nan _ _ => exact he.elim
    | infinity t => cases s <;> cases t <;> rfl
    | number t n j => cases s <;> rfl
  | number s m i =>
    cases e with
    | nan _ _ => exact he.elim
    | infinity t => cases t <;> rfl
    | number t n j =>
      have hd : -1074 ≤ i := hd
      have he : -1074 ≤ j := he
      show ordI (some (compare (signed s m (i - min i j).toNat) (signed t n (j - min i j).toNat))) = lx (cmpI 0 0) (cmpI (signed s m (i + 1074).toNat) (signed t n (j + 1074).toNat))
      rw [ordI_compare]
      have e1 : (i + 1074).toNat = (i - min i j).toNat + (min i j + 1074).toNat := by omega
      have e2 : (j + 1074).toNat = (j - min i j).toNat + (min i j + 1074).toNat := by omega
      rw [e1, e2, signed_shift, signed_shift, cmpI_mul _ (Nat.two_pow_pos _)]
      rw [cmpI_zero.2 rfl]
      rfl
theorem okD_read {f : Nat} (h : ∀ s r, FloatKind.f64.format.read f ≠ .nan s r) : okD (FloatKind.f64.format.read f) := by
  have hp : FloatKind.f64.format.leastPlace = -1074 := by decide
  have : ∀ d, d = FloatKind.f64.format.read f → okD d := by
    intro d h0
    have hd := h0
    unfold Format.read at hd
    simp only at hd
    split at hd
    · subst hd; show -1074 ≤ FloatKind.f64.format.leastPlace; omega
    · split at hd
      · subst hd; show -1074 ≤ FloatKind.f64.format.leastPlace + _; omega
      · split at hd
        · subst hd; trivial
        · exact absurd (h0.symm.trans hd) (h _ _)
  exact this _ rfl
/-- The key of a floating-point number. -/
def keyF (f : Nat) : Int × Int := keyD (FloatKind.f64.format.read f)
theorem feq_ok {f : Nat} (h : feq f f = true) : okD (FloatKind.f64.format.read f) := by
  refine okD_read fun s r e => ?_
  unfold feq Format.order at h
  rw [e] at h
  cases h
theorem ordI_order (f g : Nat) (hf : okD (FloatKind.f64.format.read f)) (hg : okD (FloatKind.f64.format.read g)) : ordI (FloatKind.f64.format.order f g) = cmpK (keyF f) (keyF g) := order_key hf hg
theorem cmpFs_ord (a b : Nat) : cmpFs a b = ordI (FloatKind.f64.format.order a b) := by
  unfold cmpFs
  cases FloatKind.f64.format.order a b with
  | none => rfl
  | some o => cases o <;> rfl
theorem order_swap (d e : Datum) : ordI (e.order d) = - ordI (d.order e) := by
  cases d with
  | nan _ _ => cases e <;> rfl
  | infinity s =>
    cases e with
    | nan _ _ => rfl
    | infinity t => cases s <;> cases t <;> rfl
    | number t n j => cases s <;> rfl
  | number s m i =>
    cases e with
    | nan _ _ => rfl
    | infinity t => cases t <;> rfl
    | number t n j =>
      show ordI (some (compare (signed t n (j - min j i).toNat) (signed s m (i - min j i).toNat))) = - ordI (some (compare (signed s m (i - min i j).toNat) (signed t n (j - min i j).toNat)))
      rw [ordI_compare, ordI_compare, show min j i = min i j by omega, cmpI_swap]
theorem cmpFs_swap (a b : Nat) : cmpFs b a = - cmpFs a b := by rw [cmpFs_ord, cmpFs_ord]; exact order_swap _ _
theorem rng_cmpFs (a b : Nat) : rng (cmpFs a b) := by
  rw [cmpFs_ord]
  unfold rng
  cases FloatKind.f64.format.order a b with
  | none => exact .inr (.inl rfl)
  | some o => cases o <;> decide
theorem feq_zero {f g : Nat} (hf : okD (FloatKind.f64.format.read f)) (hg : okD (FloatKind.f64.format.read g)) : feq f g = true ↔ cmpFs f g = 0 := by
  rw [cmpFs_ord]
  unfold feq
  cases h : FloatKind.f64.format.order f g with
  | none =>
    exfalso
    unfold Format.order at h
    revert h
    generalize FloatKind.f64.format.read f = d at *
    generalize FloatKind.f64.format.read g = e at *
    cases d <;> cases e <;> intro h <;> first | exact hf | exact hg | cases h
  | some o => cases o <;> decide
theorem read_word {s : Bool} {r : Nat} (h1 : 2 ^ 52 ≤ r) (h2 : r < 2047 * 2 ^ 52) : FloatKind.f64.format.read (FloatKind.f64.format.word s r) = .number s (2 ^ 52 + r % 2 ^ 52) (-1074 + (r / 2 ^ 52 - 1 : Nat)) := by
  have e1 : FloatKind.f64.format.signWeight = 2 ^ 63 := by decide
  have e2 : FloatKind.f64.format.binade = 2 ^ 52 := by decide
  have e3 : FloatKind.f64.format.infRung = 2047 * 2 ^ 52 := by decide
  have e4 : FloatKind.f64.format.leastPlace = -1074 := by decide
  unfold Format.read Format.word
  rw [e1, e2, e3, e4]
  have hr : (if s then 2 ^ 63 + r else r) % 2 ^ 63 = r := by cases s <;> simp <;> omega
  have hn : ((if s then 2 ^ 63 + r else r) / 2 ^ 63 % 2 == 1) = s := by
    cases s
    · have : r / 2 ^ 63 = 0 := by omega
      simp only [Bool.false_eq_true, if_false, this]; rfl
    · have : (2 ^ 63 + r) / 2 ^ 63 = 1 := by omega
      simp only [if_true, this]; rfl
  simp only [hr, hn]
  rw [if_neg (by omega), if_pos h2]
theorem cut_zero (s : Bool) (n : Nat) : Toward.even.cut s n 0 = n := by
  unfold Toward.cut
  simp [Nat.mod_one]
set_option maxHeartbeats 4000000 in
theorem key_int {n : Int} (h1 : -9007199254740992 ≤ n) (h2 : n ≤ 9007199254740992) : keyF (floatOfInt .f64 n) = (0, n * (2 ^ 1074 : Nat)) ∧ okD (FloatKind.f64.format.read (floatOfInt .f64 n)) := by
  by_cases h0 : n = 0
  · subst h0
    have e : FloatKind.f64.format.read (floatOfInt .f64 0) = .number false 0 (-1074) := by decide +kernel
    unfold keyF
    rw [e]
    exact ⟨by decide +kernel, Int.le_refl _⟩
  by_cases h3 : n = 9007199254740992
  · subst h3
    have e : FloatKind.f64.format.read (floatOfInt .f64 9007199254740992) = .number false (2 ^ 52) 1 := by decide +kernel
    unfold keyF
    rw [e]
    exact ⟨by decide +kernel, by unfold okD; omega⟩
  by_cases h4 : n = -9007199254740992
  · subst h4
    have e : FloatKind.f64.format.read (floatOfInt .f64 (-9007199254740992)) = .number true (2 ^ 52) 1 := by decide +kernel
    unfold keyF
    rw [e]
    exact ⟨by decide +kernel, by unfold okD; omega⟩
  obtain ⟨m, hm⟩ : ∃ m, m = n.natAbs := ⟨_, rfl⟩
  have hm0 : m ≠ 0 := by omega
  have hm1 : m < 2 ^ 53 := by omega
  obtain ⟨L, hL⟩ : ∃ L, L = m.log2 := ⟨_, rfl⟩
  have hL1 : 2 ^ L ≤ m := by rw [hL]; exact Nat.log2_self_le hm0
  have hL2 : m < 2 ^ (L + 1) := by rw [hL]; exact Nat.lt_log2_self
  have hL3 : L ≤ 52 := by
    have : 2 ^ L < 2 ^ 53 := by omega
    have := (Nat.pow_lt_pow_iff_right (by decide : 1 < 2)).1 this
    omega
  obtain ⟨E, hE⟩ : ∃ E, E = 1074 := ⟨_, rfl⟩
  have e5 : 52 - L + (L + 1022) = E := by omega
  obtain ⟨s, hs⟩ : ∃ s : Bool, s = decide (n < 0) := ⟨_, rfl⟩
  have e1 : FloatKind.f64.format.leastPlace = -1074 := by decide
  have e2 : FloatKind.f64.format.binade = 2 ^ 52 := by decide
  have e3 : FloatKind.f64.format.infRung = 2047 * 2 ^ 52 := by decide
  have e4 : FloatKind.f64.format.fractionBits = 52 := by decide
  obtain ⟨K, hK⟩ : ∃ K, K = m * 2 ^ (52 - L) := ⟨_, rfl⟩
  have hp : 2 ^ 52 = 2 ^ L * 2 ^ (52 - L) := by rw [← Nat.pow_add]; congr 1; omega
  have hp' : 2 ^ 53 = 2 ^ (L + 1) * 2 ^ (52 - L) := by rw [← Nat.pow_add]; congr 1; omega
  have hK1 : 2 ^ 52 ≤ K := by rw [hK, hp]; exact Nat.mul_le_mul_right _ hL1
  have hK2 : K < 2 ^ 53 := by rw [hK, hp']; exact Nat.mul_lt_mul_of_pos_right hL2 (Nat.two_pow_pos _)
  have hw : floatOfInt .f64 n = FloatKind.f64.format.word s ((L + 1022) * 2 ^ 52 + K) := by
    show FloatKind.f64.format.nearest (decide (n < 0)) n.natAbs 0 = _
    rw [← hs, ← hm]
    unfold Format.nearest
    rw [if_neg hm0, e1, e2, e3, e4, ← hL]
    have hl : max (0 + (L : Int) - (52 : Nat)) (-1074) = (L : Int) - 52 := by omega
    simp only [hl]
    rw [show ((0 : Int) - ((L : Int) - 52)).toNat = 52 - L by omega, show ((L : Int) - 52 - 0).toNat = 0 by omega, show ((L : Int) - 52 - -1074).toNat = L + 1022 by omega, cut_zero, Nat.shiftLeft_eq, ← hK, Nat.min_eq_left (by omega)]
  have hr := read_word (s := s) (r := (L + 1022) * 2 ^ 52 + K) (by omega) (by omega)
  rw [show 2 ^ 52 + ((L + 1022) * 2 ^ 52 + K) % 2 ^ 52 = K by omega, show ((L + 1022) * 2 ^ 52 + K) / 2 ^ 52 - 1 = L + 1022 by omega] at hr
  unfold keyF
  rw [hw, hr]
  refine ⟨?_, by show (-1074 : Int) ≤ _; omega⟩
  show ((0 : Int), signed s K (-1074 + ((L + 1022 : Nat) : Int) + 1074).toNat) = _
  rw [show (-1074 + ((L + 1022 : Nat) : Int) + 1074).toNat = L + 1022 by omega]
  rw [← hE]
  have hsh : K <<< (L + 1022) = m * 2 ^ E := by
    rw [Nat.shiftLeft_eq, hK, Nat.mul_assoc, ← Nat.pow_add]
    rw [e5]
  unfold signed
  rw [hsh]
  subst hs
  generalize 2 ^ E = B
  by_cases hn : n < 0
  · have hmn : -(m : Int) = n := by clear hsh; omega
    rw [decide_eq_true hn, if_pos rfl, Int.natCast_mul, ← Int.neg_mul, hmn]
  · have hmn : (m : Int) = n := by clear hsh; omega
    rw [decide_eq_false hn, if_neg (by simp), Int.natCast_mul, hmn]
end Go.Proofs.YtbbacpdbbmjblaaGreat
end
section
set_option linter.unusedVariables false
namespace Go.Proofs.YtbbacpdbbmjblaaGreat
set_option linter.unusedSimpArgs false
theorem lx_neg (a r : Int) : lx (-a) (-r) = - lx a r := by
  unfold lx
  by_cases h : a = 0
  · rw [if_neg (by simp [h]), if_neg (by simp [h])]
  · rw [if_pos (by omega), if_pos h]
theorem lx_pos {a r : Int} (h : a ≠ 0) : lx a r = a := if_pos h
theorem lx_zero {a r : Int} (h : a = 0) : lx a r = r := if_neg (by simp [h])
theorem lx_is_zero {a r : Int} : lx a r = 0 ↔ a = 0 ∧ r = 0 := by
  unfold lx
  by_cases h : a = 0
  · rw [if_neg (by simp [h])]; simp [h]
  · rw [if_pos h]; simp [h]
/-- Numbers compared. -/
def cmpNu (x y : GV) : Int := if x.kind = 2 ∧ y.kind = 2 then cmpI x.n y.n else cmpFs (asF x) (asF y)
def bodyP (r : Int) (x y : GV) : Int := if r = 0 then cmpNu x y else if r = 1 then cmpS x.s y.s else if r = 2 then cmpI x.n y.n else if r = 3 then cmpPl x.l y.l else if r = 4 then cmpPm x.keys x.l y.keys y.l else 0
theorem cmpP_lx (x y : GV) : cmpP x y = lx (cmpI (rankV x) (rankV y)) (bodyP (rankV x) x y) := by
  cases x; cases y
  simp only [cmpP]
  rfl
theorem cmpPl_cons (x y : GV) (r q : List GV) : cmpPl (x :: r) (y :: q) = lx (cmpP x y) (cmpPl r q) := by simp only [cmpPl]; rfl
theorem cmpPm_cons (k k' : ByteArray) (ks ks' : List ByteArray) (x y : GV) (r q : List GV) : cmpPm (k :: ks) (x :: r) (k' :: ks') (y :: q) = lx (cmpS k k') (lx (cmpP x y) (cmpPm ks r ks' q)) := by simp only [cmpPm]; rfl
theorem cmpPl_nil (b : List GV) : cmpPl [] b = cmpI 0 b.length := by simp only [cmpPl]
theorem cmpPl_nil' (a : List GV) : cmpPl a [] = cmpI a.length 0 := by cases a <;> simp only [cmpPl] <;> rfl
theorem cmpI_lt {a b : Int} (h : a < b) : cmpI a b = -1 := if_pos h
theorem cmpI_gt {a b : Int} (h : b < a) : cmpI a b = 1 := by unfold cmpI; rw [if_neg (by omega), if_pos h]
theorem cmpI_self (a : Int) : cmpI a a = 0 := cmpI_zero.2 rfl
theorem rng_Pl : ∀ {a b : List GV}, (∀ x ∈ a, ∀ y, rng (cmpP x y)) → rng (cmpPl a b)
  | [], b, _ => by rw [cmpPl_nil]; exact rng_cmpI _ _
  | a :: r, [], _ => by rw [cmpPl_nil']; exact rng_cmpI _ _
  | x :: r, y :: q, h => by rw [cmpPl_cons]; exact rng_lx (h x (by simp) y) (rng_Pl fun z hz => h z (by simp [hz]))
theorem rng_Pm : ∀ {ks : List ByteArray} {a : List GV} {ks' : List ByteArray} {b : List GV}, (∀ x ∈ a, ∀ y, rng (cmpP x y)) → rng (cmpPm ks a ks' b)
  | [], _, _, _, _ => by simp only [cmpPm]; exact rng_cmpI _ _
  | _ :: _, [], _, _, _ => by simp only [cmpPm]; exact rng_cmpI _ _
  | _ :: _, _ :: _, [], _, _ => by simp only [cmpPm]; exact rng_cmpI _ _
  | _ :: _, _ :: _, _ :: _, [], _ => by simp only [cmpPm]; exact rng_cmpI _ _
  | k :: ks, x :: r, k' :: ks', y :: q, h => by
    rw [cmpPm_cons]
    exact rng_lx (rng_cmpS _ _) (rng_lx (h x (by simp) y) (rng_Pm fun z hz => h z (by simp [hz])))
theorem rng_cmpNu (x y : GV) : rng (cmpNu x y) := by
  unfold cmpNu
  split
  · exact rng_cmpI _ _
  · exact rng_cmpFs _ _
theorem rng_body (r : Int) {x y : GV} (h : ∀ z ∈ x.l, ∀ u, rng (cmpP z u)) : rng (bodyP r x y) := by
  unfold bodyP
  split
  · exact rng_cmpNu _ _
  · split
    · exact rng_cmpS _ _
    · split
      · exact rng_cmpI _ _
      · split
        · exact rng_Pl h
        · split
          · exact rng_Pm h
          · exact .inr (.inl rfl)
theorem sz_l {x z : GV} (h : z ∈ x.l) : SizeOf.sizeOf z < SizeOf.sizeOf x := by
  cases x
  have := List.sizeOf_lt_of_mem h
  simp only [GV.mk.sizeOf_spec]
  have e : ∀ (k n : Int) (f : Nat) (s : ByteArray) (ks : List ByteArray) (l : List GV), (GV.mk k n f s ks l).l = l := fun _ _ _ _ _ _ => rfl
  rw [e] at this
  omega
theorem rng_P (x y : GV) : rng (cmpP x y) := by
  induction hk : SizeOf.sizeOf x using Nat.strongRecOn generalizing x y with
  | _ n IH =>
  subst hk
  rw [cmpP_lx]
  exact rng_lx (rng_cmpI _ _) (rng_body _ fun z hz u => IH _ (sz_l hz) z u rfl)
theorem swap_Pl : ∀ {a b : List GV}, (∀ x ∈ a, ∀ y, cmpP y x = - cmpP x y) → cmpPl b a = - cmpPl a b
  | [], b, _ => by rw [cmpPl_nil, cmpPl_nil', cmpI_swap]
  | a :: r, [], _ => by rw [cmpPl_nil, cmpPl_nil', cmpI_swap]
  | x :: r, y :: q, h => by rw [cmpPl_cons, cmpPl_cons, h x (by simp), swap_Pl fun z hz => h z (by simp [hz]), lx_neg]
theorem swap_Pm : ∀ {ks : List ByteArray} {a : List GV} {ks' : List ByteArray} {b : List GV}, (∀ x ∈ a, ∀ y, cmpP y x = - cmpP x y) → cmpPm ks' b ks a = - cmpPm ks a ks' b
  | [], a, ks', b, _ => by cases ks' <;> cases b <;> cases a <;> simp only [cmpPm] <;> exact cmpI_swap _ _
  | k :: ks, [], ks', b, _ => by cases ks' <;> cases b <;> simp only [cmpPm] <;> exact cmpI_swap _ _
  | _ :: _, _ :: _, [], b, _ => by cases b <;> simp only [cmpPm] <;> exact cmpI_swap _ _
  | _ :: _, _ :: _, _ :: _, [], _ => by simp only [cmpPm]; exact cmpI_swap _ _
  | k :: ks, x :: r, k' :: ks', y :: q, h => by
    rw [cmpPm_cons, cmpPm_cons, cmpS_swap k k', h x (by simp), swap_Pm fun z hz => h z (by simp [hz]), lx_neg, lx_neg]
theorem swap_P (x y : GV) : cmpP y x = - cmpP x y := by
  induction hk : SizeOf.sizeOf x using Nat.strongRecOn generalizing x y with
  | _ n IH =>
  subst hk
  rw [cmpP_lx, cmpP_lx, cmpI_swap (rankV x)]
  by_cases hr : rankV x = rankV y
  · have hb : bodyP (rankV y) y x = - bodyP (rankV x) x y := by
      rw [← hr]
      unfold bodyP
      split
      · unfold cmpNu
        by_cases h : x.kind = 2 ∧ y.kind = 2
        · rw [if_pos h, if_pos ⟨h.2, h.1⟩, cmpI_swap]
        · rw [if_neg h, if_neg (fun h' => h ⟨h'.2, h'.1⟩), cmpFs_swap]
      · split
        · exact cmpS_swap _ _
        · split
          · exact cmpI_swap _ _
          · split
            · exact swap_Pl fun z hz u => IH _ (sz_l hz) z u rfl
            · split
              · exact swap_Pm fun z hz u => IH _ (sz_l hz) z u rfl
              · rfl
    rw [hb, lx_neg]
  · have h1 : cmpI (rankV x) (rankV y) ≠ 0 := fun h => hr (cmpI_zero.1 h)
    rw [lx_pos (by omega), lx_pos h1]
mutual
/-- A plain value without NaN and whole numbers beyond 2^53. -/
def OG : GV → Prop
  | .mk k n f s ks l => OGs l ∧ ((k = 0 ∧ n = 0 ∧ s = ByteArray.empty ∧ ks = [] ∧ l = []) ∨ (k = 1 ∧ s = ByteArray.empty ∧ ks = [] ∧ l = []) ∨ (k = 2 ∧ -9007199254740992 ≤ n ∧ n ≤ 9007199254740992) ∨ (k = 3 ∧ feq f f = true)
    ∨ (k = 4 ∧ n = 0 ∧ ks = [] ∧ l = []) ∨ (k = 5 ∧ n = 0 ∧ s = ByteArray.empty ∧ ks = []) ∨ (k = 6 ∧ n = 0 ∧ s = ByteArray.empty ∧ Incr ks ∧ ks.length = l.length))
def OGs : List GV → Prop
  | [] => True
  | x :: r => OG x ∧ OGs r
end
theorem OGs_mem : ∀ {l : List GV}, OGs l → ∀ y ∈ l, OG y
  | x :: r, h, y, hy => by
    simp only [OGs] at h
    rcases List.mem_cons.1 hy with rfl | hy
    · exact h.1
    · exact OGs_mem h.2 y hy
theorem OGs_of : ∀ {l : List GV}, (∀ y ∈ l, OG y) → OGs l
  | [], _ => by simp only [OGs]
  | x :: r, h => by simp only [OGs]; exact ⟨h x (by simp), OGs_of fun y hy => h y (by simp [hy])⟩
theorem OG.subs {x : GV} (h : OG x) : ∀ y ∈ x.l, OG y := by
  cases x
  unfold OG at h
  exact OGs_mem h.1
/-- The key of a number. -/
def numK (x : GV) : Int × Int := if x.kind = 2 then (0, x.n * (2 ^ 1074 : Nat)) else keyF x.f
theorem rank_mk (k n : Int) (f : Nat) (s : ByteArray) (ks : List ByteArray) (l : List GV) : rankV (.mk k n f s ks l) = if k = 2 then 0 else if k = 3 then 0 else if k = 4 then 1 else if k = 1 then 2 else if k = 5 then 3 else if k = 6 then 4 else 5 := rfl
theorem OG.num {x : GV} (h : OG x) (hr : rankV x = 0) : keyF (asF x) = numK x ∧ Ieee.Datum.order (FloatKind.f64.format.read (asF x)) = Ieee.Datum.order (FloatKind.f64.format.read (asF x)) ∧ okD (FloatKind.f64.format.read (asF x)) ∧ (x.kind = 2 ∨ x.kind = 3) := by
  obtain ⟨k, n, f, s, ks, l⟩ := x
  unfold OG at h
  have e : asF (.mk k n f s ks l) = if k = 2 then floatOfInt .f64 n else f := rfl
  have e2 : numK (.mk k n f s ks l) = if k = 2 then (0, n * (2 ^ 1074 : Nat)) else keyF f := rfl
  rw [e, e2]
  rw [rank_mk] at hr
  obtain ⟨_, h⟩ := h
  rcases h with h | h | h | h | h | h | h <;> obtain ⟨rfl, h⟩ := h
  · exact absurd hr (by decide)
  · exact absurd hr (by decide)
  · obtain ⟨h1, h2⟩ := key_int h.1 h.2
    rw [if_pos rfl, if_pos rfl]
    exact ⟨h1, rfl, h2, .inl rfl⟩
  · rw [if_neg (by decide), if_neg (by decide)]
    exact ⟨rfl, rfl, feq_ok h, .inr rfl⟩
  · exact absurd hr (by decide)
  · exact absurd hr (by decide)
  · exact absurd hr (by decide)
theorem cmpNu_key {x y : GV} (hx : OG x) (hy : OG y) (h1 : rankV x = 0) (h2 : rankV y = 0) : cmpNu x y = cmpK (numK x) (numK y) := by
  obtain ⟨a1, _, a2, _⟩ := hx.num h1
  obtain ⟨b1, _, b2, _⟩ := hy.num h2
  unfold cmpNu
  by_cases h : x.kind = 2 ∧ y.kind = 2
  · rw [if_pos h]
    unfold numK cmpK
    rw [if_pos h.1, if_pos h.2]
    have hB := Nat.two_pow_pos 1074
    generalize 2 ^ 1074 = B at *
    show _ = lx (cmpI 0 0) (cmpI (x.n * (B : Int)) (y.n * (B : Int)))
    rw [lx_zero (cmpI_self 0)]
    exact (cmpI_mul _ hB).symm
  · rw [if_neg h, cmpFs_ord, ordI_order _ _ a2 b2, a1, b1]
theorem tri_Pl : ∀ {a b c : List GV}, (∀ x ∈ a, ∀ y ∈ b, ∀ z ∈ c, Tri (cmpP x y) (cmpP y z) (cmpP x z)) → Tri (cmpPl a b) (cmpPl b c) (cmpPl a c)
  | [], b, [], _ => by
    rw [cmpPl_nil, cmpPl_nil, cmpPl_nil']
    exact tri_cmpI 0 b.length 0
  | [], [], z :: c, _ => by
    rw [cmpPl_nil, cmpPl_nil]
    exact tri_cmpI 0 0 _
  | [], y :: b, z :: c, _ => by
    rw [cmpPl_nil, cmpPl_nil, cmpI_lt (by first | (simp; done) | (simp; omega)), cmpI_lt (by first | (simp; done) | (simp; omega))]
    have := rng_Pl (a := y :: b) (b := z :: c) (fun x _ y => rng_P x y)
    unfold rng at this
    constructor <;> omega
  | x :: a, [], c, _ => by
    rw [cmpPl_nil', cmpPl_nil, cmpI_gt (by first | (simp; done) | (simp; omega))]
    have h1 := rng_Pl (a := x :: a) (b := c) (fun x _ y => rng_P x y)
    have h2 := rng_cmpI 0 c.length
    unfold rng at h1 h2
    cases c with
    | nil => rw [show cmpI 0 ((([] : List GV).length : Nat) : Int) = 0 from rfl, cmpPl_nil', cmpI_gt (by first | (simp; done) | (simp; omega))]; constructor <;> omega
    | cons z c => rw [cmpI_lt (by first | (simp; done) | (simp; omega))]; constructor <;> omega
  | x :: a, y :: b, [], _ => by
    rw [cmpPl_nil', cmpPl_nil', cmpI_gt (by first | (simp; done) | (simp; omega)), cmpI_gt (by first | (simp; done) | (simp; omega))]
    have h1 := rng_Pl (a := x :: a) (b := y :: b) (fun x _ y => rng_P x y)
    unfold rng at h1
    constructor <;> omega
  | x :: a, y :: b, z :: c, h => by
    rw [cmpPl_cons, cmpPl_cons, cmpPl_cons]
    exact tri_lx (h x (by simp) y (by simp) z (by simp)) (rng_Pl fun x _ y => rng_P x y) (rng_Pl fun x _ y => rng_P x y) (rng_Pl fun x _ y => rng_P x y) (fun _ _ => tri_Pl fun x hx y hy z hz => h x (by simp [hx]) y (by simp [hy]) z (by simp [hz]))
theorem cmpPm_nil {ks : List ByteArray} {b : List GV} (a : List GV) : cmpPm [] a ks b = cmpI 0 ks.length := by simp only [cmpPm]; rfl
theorem cmpPm_nil' {ks : List ByteArray} {a : List GV} (b : List GV) : cmpPm ks a [] b = cmpI ks.length 0 := by cases ks <;> cases a <;> simp only [cmpPm] <;> rfl
theorem tri_Pm : ∀ {k1 : List ByteArray} {a : List GV} {k2 : List ByteArray} {b : List GV} {k3 : List ByteArray} {c : List GV}, k1.length = a.length → k2.length = b.length → k3.length = c.length → (∀ x ∈ a, ∀ y ∈ b, ∀ z ∈ c, Tri (cmpP x y) (cmpP y z) (cmpP x z)) → Tri (cmpPm k1 a k2 b) (cmpPm k2 b k3 c) (cmpPm k1 a k3 c)
  | [], a, k2, b, [], c, _, _, _, _ => by
    rw [cmpPm_nil, cmpPm_nil, cmpPm_nil']
    exact tri_cmpI 0 k2.length 0
  | [], a, [], b, z :: k3, c, _, _, _, _ => by
    rw [cmpPm_nil, cmpPm_nil, cmpPm_nil]
    exact tri_cmpI 0 0 _
  | [], a, y :: k2, b, z :: k3, c, _, _, _, _ => by
    rw [cmpPm_nil, cmpPm_nil, cmpI_lt (by first | (simp; done) | (simp; omega)), cmpI_lt (by first | (simp; done) | (simp; omega))]
    have := rng_Pm (ks := y :: k2) (a := b) (ks' := z :: k3) (b := c) (fun x _ y => rng_P x y)
    unfold rng at this
    constructor <;> omega
  | x :: k1, a, [], b, k3, c, _, _, _, _ => by
    rw [cmpPm_nil', cmpPm_nil, cmpI_gt (by first | (simp; done) | (simp; omega))]
    have h1 := rng_Pm (ks := x :: k1) (a := a) (ks' := k3) (b := c) (fun x _ y => rng_P x y)
    have h2 := rng_cmpI 0 k3.length
    unfold rng at h1 h2
    cases k3 with
    | nil => rw [show cmpI 0 ((([] : List ByteArray).length : Nat) : Int) = 0 from rfl, cmpPm_nil', cmpI_gt (by first | (simp; done) | (simp; omega))]; constructor <;> omega
    | cons z c => rw [cmpI_lt (by first | (simp; done) | (simp; omega))]; constructor <;> omega
  | x :: k1, a, y :: k2, b, [], c, _, _, _, _ => by
    rw [cmpPm_nil', cmpPm_nil', cmpI_gt (by first | (simp; done) | (simp; omega)), cmpI_gt (by first | (simp; done) | (simp; omega))]
    have h1 := rng_Pm (ks := x :: k1) (a := a) (ks' := y :: k2) (b := b) (fun x _ y => rng_P x y)
    unfold rng at h1
    constructor <;> omega
  | u :: k1, x :: a, v :: k2, y :: b, w :: k3, z :: c, h1, h2, h3, h => by
    rw [cmpPm_cons, cmpPm_cons, cmpPm_cons]
    have R : ∀ (ks : List ByteArray) (a : List GV) (ks' : List ByteArray) (b : List GV), rng (cmpPm ks a ks' b) := fun _ _ _ _ => rng_Pm fun x _ y => rng_P x y
    exact tri_lx (tri_cmpS u v w) (rng_lx (rng_P _ _) (R _ _ _ _)) (rng_lx (rng_P _ _) (R _ _ _ _)) (rng_lx (rng_P _ _) (R _ _ _ _)) (fun _ _ =>
      tri_lx (h x (by simp) y (by simp) z (by simp)) (R _ _ _ _) (R _ _ _ _) (R _ _ _ _) (fun _ _ => tri_Pm (by simpa using h1) (by simpa using h2) (by simpa using h3) fun x hx y hy z hz => h x (by simp [hx]) y (by simp [hy]) z (by simp [hz])))
  | u :: k1, [], _, _, _, _, h1, _, _, _ => by simp at h1
  | _ :: _, _ :: _, v :: k2, [], _, _, _, h2, _, _ => by simp at h2
  | _ :: _, _ :: _, _ :: _, _ :: _, w :: k3, [], _, _, h3, _ => by simp at h3
theorem OG.keys {x : GV} (h : OG x) (hr : rankV x = 4) : x.keys.length = x.l.length ∧ Incr x.keys := by
  obtain ⟨k, n, f, s, ks, l⟩ := x
  unfold OG at h
  rw [rank_mk] at hr
  obtain ⟨_, h⟩ := h
  rcases h with h | h | h | h | h | h | h <;> obtain ⟨rfl, h⟩ := h
  · exact absurd hr (by decide)
  · exact absurd hr (by decide)
  · exact absurd hr (by decide)
  · exact absurd hr (by decide)
  · exact absurd hr (by decide)
  · exact absurd hr (by decide)
  · exact ⟨h.2.2.2, h.2.2.1⟩
/-- Comparing orderly values: a total order. -/
theorem tri_P (x y z : GV) (hx : OG x) (hy : OG y) (hz : OG z) : Tri (cmpP x y) (cmpP y z) (cmpP x z) := by
  induction hk : SizeOf.sizeOf x using Nat.strongRecOn generalizing x y z with
  | _ n IH =>
  subst hk
  rw [cmpP_lx, cmpP_lx, cmpP_lx]
  refine tri_lx (tri_cmpI _ _ _) (rng_body _ fun z _ u => rng_P z u) (rng_body _ fun z _ u => rng_P z u) (rng_body _ fun z _ u => rng_P z u) fun h1 h2 => ?_
  have h1 := cmpI_zero.1 h1
  have h2 := cmpI_zero.1 h2
  have ih : ∀ a ∈ x.l, ∀ b ∈ y.l, ∀ c ∈ z.l, Tri (cmpP a b) (cmpP b c) (cmpP a c) := fun a ha b hb c hc => IH _ (sz_l ha) a b c (hx.subs a ha) (hy.subs b hb) (hz.subs c hc) rfl
  unfold bodyP
  rw [← h1]
  split
  · rename_i h0
    rw [cmpNu_key hx hy h0 (by omega), cmpNu_key hy hz (by omega) (by omega), cmpNu_key hx hz h0 (by omega)]
    exact tri_cmpK _ _ _
  · split
    · exact tri_cmpS _ _ _
    · split
      · exact tri_cmpI _ _ _
      · split
        · exact tri_Pl ih
        · split
          · rename_i h4
            exact tri_Pm (hx.keys h4).1 (hy.keys (by omega)).1 (hz.keys (by omega)).1 ih
          · constructor <;> omega
end Go.Proofs.YtbbacpdbbmjblaaGreat
end
section
set_option linter.unusedVariables false
namespace Go.Proofs.YtbbacpdbbmjblaaGreat
open Go.RowKit
set_option linter.unusedSimpArgs false
set_option maxHeartbeats 4000000 in
theorem sMaps_p (k n : Int) (f : Nat) (s : ByteArray) (ks : List ByteArray) (l : List GV) (k' n' : Int) (f' : Nat) (s' : ByteArray) (ks' : List ByteArray) (l' : List GV) (hL : ks.length ≤ l.length) (hL' : ks'.length ≤ l'.length) (ih : ∀ a ∈ l, ∀ b ∈ l', PCall Tryz.prog 84 [qV a, qV b] (.val (.int .i64 (cmpP a b)))) :
    PCall Tryz.prog 118 [qV (.mk k n f s ks l), qV (.mk k' n' f' s' ks' l')] (.val (.int .i64 (cmpPm ks l ks' l'))) := by
  refine pcall_fits fun hfit => ?_
  have b1 := (Fits.aggAt (hfit (qV (.mk k n f s ks l)) (by simp)) 4 (d := .sl 1 16 (pdS ks)) rfl).sl.2.1
  rw [pdS_len] at b1
  clear hfit
  have hlk := pdS_len ks
  have hlk' := pdS_len ks'
  have cI := sInts_p (((pdS ks).length : Nat) : Int) (((pdS ks').length : Nat) : Int)
  refine pcall_of_run Tryz.func118 rfl Tryz.ntmps118 rfl (fun X => ?_)
  repeat' (first
    | refine run_seq ?_
    | (refine k_pick rfl ?_; first | refine k_assignD rfl rfl ?_ | refine k_boxW rfl rfl rfl (by first | rfl | (simp only [cellsD]; rfl)) ?_)
    | refine run_opsEnd ?_
    | refine run_region ?_
    | refine run_block ?_
    | fail)
  refine run_loopS (ι := { j : Nat // (j ≤ ks.length ∧ j ≤ ks'.length) ∧ ∀ i u v x y, i < j → ks[i]? = some u → ks'[i]? = some v → l[i]? = some x → l'[i]? = some y → cmpS u v = 0 ∧ cmpP x y = 0 })
    (fun j => [(2, .ptr 2 0), (3, .ptr 3 0), (5, .dat (.val (.int .i64 (j.1 : Nat))))])
    (fun _ => [(2, .box 27 (cellsD (qV (.mk k n f s ks l)))), (3, .box 27 (cellsD (qV (.mk k' n' f' s' ks' l'))))]) (fun j => ks.length - j.1) ⟨0, ⟨Nat.zero_le _, Nat.zero_le _⟩, fun i _ _ _ _ h => absurd h (Nat.not_lt_zero i)⟩ id ?_ ?_
  · (refine ⟨?_, ?_, by rfl⟩ <;> repeat' (first | exact trivial | exact ALe.ptr rfl | exact ALe.own rfl | exact ALe.elt rfl | exact BLe.boxD _ _ | exact BLe.row rfl | exact BLe.res | exact BLe.dead rfl | exact ALe.dat (PLe.refl _) | exact CLe.nil | refine And.intro ?_ ?_ | refine ALe.iface ?_ | refine ALe.clo ?_ | refine CLe.cons ?_ ?_ | refine BLe.box ?_ | refine BLe.row ?_ | exact ALe.any _ | refine ALe.dat (PLe.of_eq ?_)))
  rintro ⟨j, ⟨hj, hj'⟩, hall⟩
  have hend : j = ks.length ∨ j = ks'.length → cmpPm ks l ks' l' = cmpI (((pdS ks).length : Nat) : Int) (((pdS ks').length : Nat) : Int) := fun h => by
    rw [hlk, hlk']
    exact cmpPm_end hL hL' (fun i u v x y hu hv => hall i u v x y (by
      have := (List.getElem?_eq_some_iff.1 hu).1
      have := (List.getElem?_eq_some_iff.1 hv).1
      omega) hu hv)
  by_cases hlt : j < ks.length
  · have g1 : decide ((j : Int) < (((pdS ks).length : Nat) : Int)) = true := decide_eq_true (by omega)
    by_cases hlt' : j < ks'.length
    · have g2 : decide ((j : Int) < (((pdS ks').length : Nat) : Int)) = true := decide_eq_true (by omega)
      obtain ⟨u, hu⟩ : ∃ u, ks[j]? = some u := ⟨_, List.getElem?_eq_getElem hlt⟩
      obtain ⟨v, hv⟩ : ∃ v, ks'[j]? = some v := ⟨_, List.getElem?_eq_getElem hlt'⟩
      obtain ⟨x, hx⟩ : ∃ x, l[j]? = some x := ⟨_, List.getElem?_eq_getElem (by omega)⟩
      obtain ⟨y, hy⟩ : ∃ y, l'[j]? = some y := ⟨_, List.getElem?_eq_getElem (by omega)⟩
      have k1 : (pdS ks)[((j : Nat) : Int).toNat]? = some (.val (.string u)) := pdS_at hu
      have k2 : (pdS ks')[((j : Nat) : Int).toNat]? = some (.val (.string v)) := pdS_at hv
      have i1 : (pdVs l)[((j : Nat) : Int).toNat]? = some (qV x) := by rw [show qV x = pdV x from (pdV_eq x).symm]; exact pdVs_at hx
      have i2 : (pdVs l')[((j : Nat) : Int).toNat]? = some (qV y) := by rw [show qV y = pdV y from (pdV_eq y).symm]; exact pdVs_at hy
      have hC := ih x (List.mem_of_getElem? hx) y (List.mem_of_getElem? hy)
      have hS := sStrs_p u v
      by_cases hs : cmpS u v = 0
      · have g3 : decide (cmpS u v ≠ 0) = false := decide_eq_false (by simp [hs])
        by_cases hr : cmpP x y = 0
        · have g4 : decide (cmpP x y ≠ 0) = false := decide_eq_false (by simp [hr])
          repeat' (first
    | refine run_seq ?_
    | (refine k_pick rfl ?_; first | refine k_assignD rfl rfl ?_ | refine k_moveD rfl rfl ?_ | refine k_fieldAddrB rfl rfl rfl ?_ | refine k_loadBD rfl rfl rfl (by first | rfl | (simp only [cellsD]; rfl)) ?_ | refine k_bin2B rfl rfl rfl rfl ?_ | refine k_pickT rfl rfl (by first | rfl | assumption) rfl ?_ | refine k_lenD rfl rfl ?_ | refine k_ariI rfl rfl rfl rfl (by first | omega | (dsimp only; omega)) ?_)
    | refine run_opsEnd ?_
    | refine run_region ?_
    | refine run_condT rfl (by first | rfl | assumption) ?_
    | refine run_condF rfl (by first | rfl | assumption) ?_
    | (refine k_guardY rfl rfl (by first | rfl | assumption) ?_; first | refine k_moveD rfl rfl ?_ | refine k_fieldAddrB rfl rfl rfl ?_ | refine k_loadBD rfl rfl rfl (by first | rfl | (simp only [cellsD]; rfl)) ?_ | refine k_bin2B rfl rfl rfl rfl ?_ | refine k_lenD rfl rfl ?_)
    | refine run_block ?_
    | refine run_blkEnd ?_
    | refine run_skip ?_
    | refine run_drawC (by kernel_rfl) ?_
    | refine c_nil (And.intro (by kernel_rfl) ?_)
    | refine c_pick (d_indexAddrD rfl rfl rfl (by first | omega | (dsimp only; omega)) (by assumption)) ?_
    | refine c_pick (d_assignD rfl rfl) ?_
    | refine c_pick (d_moveD rfl rfl) ?_
    | refine c_pick (d_fieldAddrB rfl rfl rfl) ?_
    | refine c_pick (d_loadBD rfl rfl rfl (by first | rfl | (simp only [cellsD]; rfl))) ?_
    | refine c_pick (d_call rfl (by kernel_rfl) rfl (by first | exact hC | exact hS)) ?_
    | refine c_pick (d_loadD rfl rfl (by first | rfl | (simp only [cellsD]; rfl))) ?_
    | fail)
          refine run_again ?_
          refine ⟨⟨j + 1, ⟨by omega, by omega⟩, fun i u' v' x' y' hi hu' hv' hx' hy' => ?_⟩, id, by simp only; omega, ?_⟩
          · by_cases e : i = j
            · subst e
              rw [hu] at hu'; rw [hv] at hv'
              rw [hx] at hx'; rw [hy] at hy'
              cases hu'; cases hv'
              cases hx'; cases hy'
              exact ⟨hs, hr⟩
            · exact hall i u' v' x' y' (by omega) hu' hv' hx' hy'
          (refine ⟨?_, ?_, by rfl⟩ <;> repeat' (first | exact trivial | exact ALe.ptr rfl | exact ALe.own rfl | exact ALe.elt rfl | exact BLe.boxD _ _ | exact BLe.row rfl | exact BLe.res | exact BLe.dead rfl | exact ALe.dat (PLe.refl _) | exact CLe.nil | refine And.intro ?_ ?_ | refine ALe.iface ?_ | refine ALe.clo ?_ | refine CLe.cons ?_ ?_ | refine BLe.box ?_ | refine BLe.row ?_ | exact ALe.any _ | refine ALe.dat (PLe.of_eq ?_)))
        · have g4 : decide (cmpP x y ≠ 0) = true := decide_eq_true hr
          rw [cmpPm_ne2 hL hL' (fun i u v x y hi => hall i u v x y hi) hu hv hx hy hs hr]
          repeat' (first
    | refine run_seq ?_
    | (refine k_pick rfl ?_; first | refine k_assignD rfl rfl ?_ | refine k_moveD rfl rfl ?_ | refine k_fieldAddrB rfl rfl rfl ?_ | refine k_loadBD rfl rfl rfl (by first | rfl | (simp only [cellsD]; rfl)) ?_ | refine k_bin2B rfl rfl rfl rfl ?_ | refine k_pickT rfl rfl (by first | rfl | assumption) rfl ?_ | refine k_lenD rfl rfl ?_)
    | refine run_opsEnd ?_
    | refine run_region ?_
    | refine run_condT rfl (by first | rfl | assumption) ?_
    | refine run_condF rfl (by first | rfl | assumption) ?_
    | (refine k_guardY rfl rfl (by first | rfl | assumption) ?_; first | refine k_moveD rfl rfl ?_ | refine k_fieldAddrB rfl rfl rfl ?_ | refine k_loadBD rfl rfl rfl (by first | rfl | (simp only [cellsD]; rfl)) ?_ | refine k_bin2B rfl rfl rfl rfl ?_ | refine k_lenD rfl rfl ?_)
    | refine run_block ?_
    | refine run_skip ?_
    | refine run_retOk (resOk_tmp rfl rfl ?_)
    | refine run_drawC (by kernel_rfl) ?_
    | refine c_nil (And.intro (by kernel_rfl) ?_)
    | refine c_pick (d_indexAddrD rfl rfl rfl (by first | omega | (dsimp only; omega)) (by assumption)) ?_
    | refine c_pick (d_assignD rfl rfl) ?_
    | refine c_pick (d_moveD rfl rfl) ?_
    | refine c_pick (d_fieldAddrB rfl rfl rfl) ?_
    | refine c_pick (d_loadBD rfl rfl rfl (by first | rfl | (simp only [cellsD]; rfl))) ?_
    | refine c_pick (d_call rfl (by kernel_rfl) rfl (by first | exact hC | exact hS)) ?_
    | refine c_pick (d_loadD rfl rfl (by first | rfl | (simp only [cellsD]; rfl))) ?_
    | fail)
          all_goals exact PLe.refl _
      · have g3 : decide (cmpS u v ≠ 0) = true := decide_eq_true hs
        rw [cmpPm_ne1 hL hL' (fun i u v x y hi => hall i u v x y hi) hu hv hs]
        repeat' (first
    | refine run_seq ?_
    | (refine k_pick rfl ?_; first | refine k_assignD rfl rfl ?_ | refine k_moveD rfl rfl ?_ | refine k_fieldAddrB rfl rfl rfl ?_ | refine k_loadBD rfl rfl rfl (by first | rfl | (simp only [cellsD]; rfl)) ?_ | refine k_bin2B rfl rfl rfl rfl ?_ | refine k_pickT rfl rfl (by first | rfl | assumption) rfl ?_ | refine k_lenD rfl rfl ?_)
    | refine run_opsEnd ?_
    | refine run_region ?_
    | refine run_condT rfl (by first | rfl | assumption) ?_
    | (refine k_guardY rfl rfl (by first | rfl | assumption) ?_; first | refine k_moveD rfl rfl ?_ | refine k_fieldAddrB rfl rfl rfl ?_ | refine k_loadBD rfl rfl rfl (by first | rfl | (simp only [cellsD]; rfl)) ?_ | refine k_bin2B rfl rfl rfl rfl ?_ | refine k_lenD rfl rfl ?_)
    | refine run_block ?_
    | refine run_skip ?_
    | refine run_retOk (resOk_tmp rfl rfl ?_)
    | refine run_drawC (by kernel_rfl) ?_
    | refine c_nil (And.intro (by kernel_rfl) ?_)
    | refine c_pick (d_indexAddrD rfl rfl rfl (by first | omega | (dsimp only; omega)) (by assumption)) ?_
    | refine c_pick (d_assignD rfl rfl) ?_
    | refine c_pick (d_moveD rfl rfl) ?_
    | refine c_pick (d_fieldAddrB rfl rfl rfl) ?_
    | refine c_pick (d_loadBD rfl rfl rfl (by first | rfl | (simp only [cellsD]; rfl))) ?_
    | refine c_pick (d_call rfl (by kernel_rfl) rfl (by first | exact hC | exact hS)) ?_
    | refine c_pick (d_loadD rfl rfl (by first | rfl | (simp only [cellsD]; rfl))) ?_
    | fail)
        all_goals exact PLe.refl _
    · have g2 : decide ((j : Int) < (((pdS ks').length : Nat) : Int)) = false := decide_eq_false (by omega)
      rw [hend (.inr (by omega))]
      repeat' (first
    | refine run_seq ?_
    | (refine k_pick rfl ?_; first | refine k_assignD rfl rfl ?_ | refine k_moveD rfl rfl ?_ | refine k_fieldAddrB rfl rfl rfl ?_ | refine k_loadBD rfl rfl rfl (by first | rfl | (simp only [cellsD]; rfl)) ?_ | refine k_bin2B rfl rfl rfl rfl ?_ | refine k_pickT rfl rfl (by first | rfl | assumption) rfl ?_ | refine k_call rfl (by kernel_rfl) rfl (by first | exact cI) ?_ | refine k_lenD rfl rfl ?_)
    | refine run_opsEnd ?_
    | refine run_region ?_
    | refine run_condF rfl (by first | rfl | assumption) ?_
    | (refine k_guardY rfl rfl (by first | rfl | assumption) ?_; first | refine k_moveD rfl rfl ?_ | refine k_fieldAddrB rfl rfl rfl ?_ | refine k_loadBD rfl rfl rfl (by first | rfl | (simp only [cellsD]; rfl)) ?_ | refine k_bin2B rfl rfl rfl rfl ?_ | refine k_lenD rfl rfl ?_)
    | refine run_exit rfl ?_
    | refine run_retOk (resOk_tmp rfl rfl ?_)
    | fail)
      all_goals exact PLe.refl _
  · have g1 : decide ((j : Int) < (((pdS ks).length : Nat) : Int)) = false := decide_eq_false (by omega)
    rw [hend (.inl (by omega))]
    repeat' (first
    | refine run_seq ?_
    | (refine k_pick rfl ?_; first | refine k_assignD rfl rfl ?_ | refine k_moveD rfl rfl ?_ | refine k_fieldAddrB rfl rfl rfl ?_ | refine k_loadBD rfl rfl rfl (by first | rfl | (simp only [cellsD]; rfl)) ?_ | refine k_bin2B rfl rfl rfl rfl ?_ | refine k_pickF rfl rfl (by first | rfl | assumption) rfl ?_ | refine k_call rfl (by kernel_rfl) rfl (by first | exact cI) ?_ | refine k_lenD rfl rfl ?_)
    | refine run_opsEnd ?_
    | refine run_region ?_
    | refine run_condF rfl (by first | rfl | assumption) ?_
    | refine k_guardNT rfl rfl (by first | rfl | assumption) rfl ?_
    | refine run_exit rfl ?_
    | refine run_retOk (resOk_tmp rfl rfl ?_)
    | fail)
    all_goals exact PLe.refl _
theorem fits_fl {x : GV} (h : Fits (qV x)) : (Lit.float .f64 x.f).wf = true := by
  obtain ⟨w, F, v, hv⟩ := h.aggAt 2 (d := .val (.float .f64 x.f)) rfl
  unfold Rep at hv
  exact hv.2
theorem sAsFloat_p (x : GV) : PCall Tryz.prog 114 [qV x] (.val (.float .f64 (asF x))) := by
  refine pcall_fits fun hf => ?_
  have hx := fits_fl (hf _ (List.mem_singleton.2 rfl))
  have := pcall_V1s (P := Tryz.prog) (f := 114) (x := x) (u := .float .f64 (asF x)) (by
    show (Lit.float .f64 (asF x)).wf = true
    unfold asF
    split
    · exact floatOfInt_wf _ _
    · exact hx) (fun w v hv => asFloat_any x w v hv)
  rw [pdV_eq] at this
  exact this
theorem rank_cases (x : GV) : rankV x = 0 ∨ rankV x = 1 ∨ rankV x = 2 ∨ rankV x = 3 ∨ rankV x = 4 ∨ rankV x = 5 := by
  unfold rankV
  repeat' split
  all_goals simp
set_option maxHeartbeats 8000000 in
theorem sPlain_p1 (x y : GV) (hx : PlG x) (hy : PlG y) (ih : ∀ a ∈ x.l, ∀ b ∈ y.l, PCall Tryz.prog 84 [qV a, qV b] (.val (.int .i64 (cmpP a b)))) : PCall Tryz.prog 84 [qV x, qV y] (.val (.int .i64 (cmpP x y))) := by
  obtain ⟨k, n, f, s, ks, l⟩ := x
  obtain ⟨k', n', f', s', ks', l'⟩ := y
  simp only [PlG] at hx hy
  have c1 := sRank_p (.mk k n f s ks l)
  have c2 := sRank_p (.mk k' n' f' s' ks' l')
  have c3 := sInts_p (rankV (.mk k n f s ks l)) (rankV (.mk k' n' f' s' ks' l'))
  have c4 := sAsFloat_p (.mk k n f s ks l)
  have c5 := sAsFloat_p (.mk k' n' f' s' ks' l')
  have c6 := sFloats_p (asF (.mk k n f s ks l)) (asF (.mk k' n' f' s' ks' l'))
  have c7 := sStrs_p s s'
  have c8 := sInts_p n n'
  have c9 := sLists_p l l' ih
  have c10 := sMaps_p k n f s ks l k' n' f' s' ks' l' hx.1 hy.1 ih
  have hr := rank_cases (.mk k n f s ks l)
  rw [show cmpP (.mk k n f s ks l) (.mk k' n' f' s' ks' l') = if cmpI (rankV (.mk k n f s ks l)) (rankV (.mk k' n' f' s' ks' l')) ≠ 0 then cmpI (rankV (.mk k n f s ks l)) (rankV (.mk k' n' f' s' ks' l'))
    else if rankV (.mk k n f s ks l) = 0 then (if k = 2 ∧ k' = 2 then cmpI n n' else cmpFs (asF (.mk k n f s ks l)) (asF (.mk k' n' f' s' ks' l')))
    else if rankV (.mk k n f s ks l) = 1 then cmpS s s'
    else if rankV (.mk k n f s ks l) = 2 then cmpI n n'
    else if rankV (.mk k n f s ks l) = 3 then cmpPl l l'
    else if rankV (.mk k n f s ks l) = 4 then cmpPm ks l ks' l'
    else 0 by simp only [cmpP]]
  clear ih hx hy
  generalize rankV (.mk k n f s ks l) = r at *
  generalize rankV (.mk k' n' f' s' ks' l') = r' at *
  generalize asF (.mk k n f s ks l) = A at *
  generalize asF (.mk k' n' f' s' ks' l') = B at *
  generalize cmpI r r' = R at *
  generalize cmpI n n' = R2 at *
  refine pcall_of_run Tryz.func84 rfl Tryz.ntmps84 rfl (fun X => ?_)
  by_cases h0 : R = 0
  rotate_left
  · have g0 : decide (R ≠ 0) = true := decide_eq_true h0
    rw [if_pos h0]
    repeat' (first
    | refine run_seq ?_
    | (refine k_pick rfl ?_; first | refine k_assignD rfl rfl ?_ | refine k_moveD rfl rfl ?_ | refine k_bin2B rfl rfl rfl rfl ?_ | refine k_boxW rfl rfl rfl (by first | rfl | (simp only [cellsD]; rfl)) ?_)
    | refine run_opsEnd ?_
    | refine run_region ?_
    | refine run_condT rfl (by first | rfl | assumption) ?_
    | refine run_retOk (resOk_tmp rfl rfl ?_)
    | refine run_drawC (by kernel_rfl) ?_
    | refine c_nil (And.intro (by kernel_rfl) ?_)
    | refine c_pick (d_assignD rfl rfl) ?_
    | refine c_pick (d_loadW rfl rfl rfl (by first | rfl | (simp only [cellsD]; rfl))) ?_
    | refine c_pick (d_call rfl (by kernel_rfl) rfl (by first | exact c1 | exact c2 | exact c3)) ?_
    | fail)
    all_goals exact PLe.refl _
  have g0 : decide (R ≠ 0) = false := decide_eq_false (by simp [h0])
  rw [if_neg (by simp [h0])]
  rcases hr with hr | hr | hr | hr | hr | hr <;> subst hr
  · rw [if_pos rfl]
    by_cases e1 : k = 2
    · have q1 : decide (k = 2) = true := decide_eq_true e1
      by_cases e2 : k' = 2
      · have q2 : decide (k' = 2) = true := decide_eq_true e2
        rw [if_pos ⟨e1, e2⟩]
        repeat' (first
    | refine run_seq ?_
    | (refine k_pick rfl ?_; first | refine k_assignD rfl rfl ?_ | refine k_moveD rfl rfl ?_ | refine k_fieldAddrB rfl rfl rfl ?_ | refine k_loadW rfl rfl rfl (by first | rfl | (simp only [cellsD]; rfl)) ?_ | refine k_loadBD rfl rfl rfl (by first | rfl | (simp only [cellsD]; rfl)) ?_ | refine k_bin2B rfl rfl rfl rfl ?_ | refine k_pickT rfl rfl (by first | rfl | assumption) rfl ?_ | refine k_boxW rfl rfl rfl (by first | rfl | (simp only [cellsD]; rfl)) ?_ | refine k_call rfl (by kernel_rfl) rfl (by first | exact c1 | exact c2 | exact c3 | exact c8) ?_)
    | refine run_opsEnd ?_
    | refine run_region ?_
    | refine run_condT rfl (by first | rfl | assumption) ?_
    | refine run_condF rfl (by first | rfl | assumption) ?_
    | (refine k_guardY rfl rfl (by first | rfl | assumption) ?_; first | refine k_fieldAddrB rfl rfl rfl ?_ | refine k_loadBD rfl rfl rfl (by first | rfl | (simp only [cellsD]; rfl)) ?_ | refine k_bin2B rfl rfl rfl rfl ?_)
    | refine run_block ?_
    | refine run_skip ?_
    | refine run_retOk (resOk_tmp rfl rfl ?_)
    | refine run_drawC (by kernel_rfl) ?_
    | refine c_nil (And.intro (by kernel_rfl) ?_)
    | refine c_pick (d_assignD rfl rfl) ?_
    | refine c_pick (d_loadW rfl rfl rfl (by first | rfl | (simp only [cellsD]; rfl))) ?_
    | refine c_pick (d_call rfl (by kernel_rfl) rfl (by first | exact c1 | exact c2 | exact c3 | exact c8)) ?_
    | fail)
        all_goals exact PLe.refl _
      · have q2 : decide (k' = 2) = false := decide_eq_false e2
        rw [if_neg (fun h => e2 h.2)]
        repeat' (first
    | refine run_seq ?_
    | (refine k_pick rfl ?_; first | refine k_assignD rfl rfl ?_ | refine k_moveD rfl rfl ?_ | refine k_fieldAddrB rfl rfl rfl ?_ | refine k_loadW rfl rfl rfl (by first | rfl | (simp only [cellsD]; rfl)) ?_ | refine k_loadBD rfl rfl rfl (by first | rfl | (simp only [cellsD]; rfl)) ?_ | refine k_bin2B rfl rfl rfl rfl ?_ | refine k_pickT rfl rfl (by first | rfl | assumption) rfl ?_ | refine k_boxW rfl rfl rfl (by first | rfl | (simp only [cellsD]; rfl)) ?_ | refine k_call rfl (by kernel_rfl) rfl (by first | exact c1 | exact c2 | exact c3 | exact c4 | exact c5 | exact c6) ?_)
    | refine run_opsEnd ?_
    | refine run_region ?_
    | refine run_condT rfl (by first | rfl | assumption) ?_
    | refine run_condF rfl (by first | rfl | assumption) ?_
    | (refine k_guardY rfl rfl (by first | rfl | assumption) ?_; first | refine k_fieldAddrB rfl rfl rfl ?_ | refine k_loadBD rfl rfl rfl (by first | rfl | (simp only [cellsD]; rfl)) ?_ | refine k_bin2B rfl rfl rfl rfl ?_)
    | refine run_block ?_
    | refine run_skip ?_
    | refine run_retOk (resOk_tmp rfl rfl ?_)
    | refine run_drawC (by kernel_rfl) ?_
    | refine c_nil (And.intro (by kernel_rfl) ?_)
    | refine c_pick (d_assignD rfl rfl) ?_
    | refine c_pick (d_loadW rfl rfl rfl (by first | rfl | (simp only [cellsD]; rfl))) ?_
    | refine c_pick (d_call rfl (by kernel_rfl) rfl (by first | exact c1 | exact c2 | exact c3 | exact c4 | exact c5 | exact c6)) ?_
    | fail)
        all_goals exact PLe.refl _
    · have q1 : decide (k = 2) = false := decide_eq_false e1
      rw [if_neg (fun h => e1 h.1)]
      repeat' (first
    | refine run_seq ?_
    | (refine k_pick rfl ?_; first | refine k_assignD rfl rfl ?_ | refine k_moveD rfl rfl ?_ | refine k_fieldAddrB rfl rfl rfl ?_ | refine k_loadW rfl rfl rfl (by first | rfl | (simp only [cellsD]; rfl)) ?_ | refine k_loadBD rfl rfl rfl (by first | rfl | (simp only [cellsD]; rfl)) ?_ | refine k_bin2B rfl rfl rfl rfl ?_ | refine k_pickF rfl rfl (by first | rfl | assumption) rfl ?_ | refine k_boxW rfl rfl rfl (by first | rfl | (simp only [cellsD]; rfl)) ?_ | refine k_call rfl (by kernel_rfl) rfl (by first | exact c1 | exact c2 | exact c3 | exact c4 | exact c5 | exact c6) ?_)
    | refine run_opsEnd ?_
    | refine run_region ?_
    | refine run_condT rfl (by first | rfl | assumption) ?_
    | refine run_condF rfl (by first | rfl | assumption) ?_
    | refine k_guardNT rfl rfl (by first | rfl | assumption) rfl ?_
    | refine run_block ?_
    | refine run_skip ?_
    | refine run_retOk (resOk_tmp rfl rfl ?_)
    | refine run_drawC (by kernel_rfl) ?_
    | refine c_nil (And.intro (by kernel_rfl) ?_)
    | refine c_pick (d_assignD rfl rfl) ?_
    | refine c_pick (d_loadW rfl rfl rfl (by first | rfl | (simp only [cellsD]; rfl))) ?_
    | refine c_pick (d_call rfl (by kernel_rfl) rfl (by first | exact c1 | exact c2 | exact c3 | exact c4 | exact c5 | exact c6)) ?_
    | fail)
      all_goals exact PLe.refl _
  · rw [if_neg (by decide), if_pos rfl]
    repeat' (first
    | refine run_seq ?_
    | (refine k_pick rfl ?_; first | refine k_assignD rfl rfl ?_ | refine k_moveD rfl rfl ?_ | refine k_fieldAddrB rfl rfl rfl ?_ | refine k_loadW rfl rfl rfl (by first | rfl | (simp only [cellsD]; rfl)) ?_ | refine k_loadBD rfl rfl rfl (by first | rfl | (simp only [cellsD]; rfl)) ?_ | refine k_bin2B rfl rfl rfl rfl ?_ | refine k_boxW rfl rfl rfl (by first | rfl | (simp only [cellsD]; rfl)) ?_ | refine k_call rfl (by kernel_rfl) rfl (by first | exact c1 | exact c2 | exact c3 | exact c7) ?_)
    | refine run_opsEnd ?_
    | refine run_region ?_
    | refine run_condT rfl (by first | rfl | assumption) ?_
    | refine run_condF rfl (by first | rfl | assumption) ?_
    | refine run_block ?_
    | refine run_skip ?_
    | refine run_retOk (resOk_tmp rfl rfl ?_)
    | refine run_drawC (by kernel_rfl) ?_
    | refine c_nil (And.intro (by kernel_rfl) ?_)
    | refine c_pick (d_assignD rfl rfl) ?_
    | refine c_pick (d_loadW rfl rfl rfl (by first | rfl | (simp only [cellsD]; rfl))) ?_
    | refine c_pick (d_call rfl (by kernel_rfl) rfl (by first | exact c1 | exact c2 | exact c3 | exact c7)) ?_
    | fail)
    all_goals exact PLe.refl _
  · rw [if_neg (by decide), if_neg (by decide), if_pos rfl]
    repeat' (first
    | refine run_seq ?_
    | (refine k_pick rfl ?_; first | refine k_assignD rfl rfl ?_ | refine k_moveD rfl rfl ?_ | refine k_fieldAddrB rfl rfl rfl ?_ | refine k_loadW rfl rfl rfl (by first | rfl | (simp only [cellsD]; rfl)) ?_ | refine k_loadBD rfl rfl rfl (by first | rfl | (simp only [cellsD]; rfl)) ?_ | refine k_bin2B rfl rfl rfl rfl ?_ | refine k_boxW rfl rfl rfl (by first | rfl | (simp only [cellsD]; rfl)) ?_ | refine k_call rfl (by kernel_rfl) rfl (by first | exact c1 | exact c2 | exact c3 | exact c8) ?_)
    | refine run_opsEnd ?_
    | refine run_region ?_
    | refine run_condT rfl (by first | rfl | assumption) ?_
    | refine run_condF rfl (by first | rfl | assumption) ?_
    | refine run_block ?_
    | refine run_skip ?_
    | refine run_retOk (resOk_tmp rfl rfl ?_)
    | refine run_drawC (by kernel_rfl) ?_
    | refine c_nil (And.intro (by kernel_rfl) ?_)
    | refine c_pick (d_assignD rfl rfl) ?_
    | refine c_pick (d_loadW rfl rfl rfl (by first | rfl | (simp only [cellsD]; rfl))) ?_
    | refine c_pick (d_call rfl (by kernel_rfl) rfl (by first | exact c1 | exact c2 | exact c3 | exact c8)) ?_
    | fail)
    all_goals exact PLe.refl _
  · rw [if_neg (by decide), if_neg (by decide), if_neg (by decide), if_pos rfl]
    repeat' (first
    | refine run_seq ?_
    | (refine k_pick rfl ?_; first | refine k_assignD rfl rfl ?_ | refine k_moveD rfl rfl ?_ | refine k_fieldAddrB rfl rfl rfl ?_ | refine k_loadW rfl rfl rfl (by first | rfl | (simp only [cellsD]; rfl)) ?_ | refine k_loadBD rfl rfl rfl (by first | rfl | (simp only [cellsD]; rfl)) ?_ | refine k_bin2B rfl rfl rfl rfl ?_ | refine k_boxW rfl rfl rfl (by first | rfl | (simp only [cellsD]; rfl)) ?_ | refine k_call rfl (by kernel_rfl) rfl (by first | exact c1 | exact c2 | exact c3 | exact c9) ?_)
    | refine run_opsEnd ?_
    | refine run_region ?_
    | refine run_condT rfl (by first | rfl | assumption) ?_
    | refine run_condF rfl (by first | rfl | assumption) ?_
    | refine run_block ?_
    | refine run_skip ?_
    | refine run_retOk (resOk_tmp rfl rfl ?_)
    | refine run_drawC (by kernel_rfl) ?_
    | refine c_nil (And.intro (by kernel_rfl) ?_)
    | refine c_pick (d_assignD rfl rfl) ?_
    | refine c_pick (d_loadW rfl rfl rfl (by first | rfl | (simp only [cellsD]; rfl))) ?_
    | refine c_pick (d_call rfl (by kernel_rfl) rfl (by first | exact c1 | exact c2 | exact c3 | exact c9)) ?_
    | fail)
    all_goals exact PLe.refl _
  · rw [if_neg (by decide), if_neg (by decide), if_neg (by decide), if_neg (by decide), if_pos rfl]
    repeat' (first
    | refine run_seq ?_
    | (refine k_pick rfl ?_; first | refine k_assignD rfl rfl ?_ | refine k_moveD rfl rfl ?_ | refine k_loadW rfl rfl rfl (by first | rfl | (simp only [cellsD]; rfl)) ?_ | refine k_bin2B rfl rfl rfl rfl ?_ | refine k_boxW rfl rfl rfl (by first | rfl | (simp only [cellsD]; rfl)) ?_ | refine k_call rfl (by kernel_rfl) rfl (by first | exact c1 | exact c2 | exact c3 | exact c10) ?_)
    | refine run_opsEnd ?_
    | refine run_region ?_
    | refine run_condT rfl (by first | rfl | assumption) ?_
    | refine run_condF rfl (by first | rfl | assumption) ?_
    | refine run_block ?_
    | refine run_skip ?_
    | refine run_retOk (resOk_tmp rfl rfl ?_)
    | refine run_drawC (by kernel_rfl) ?_
    | refine c_nil (And.intro (by kernel_rfl) ?_)
    | refine c_pick (d_assignD rfl rfl) ?_
    | refine c_pick (d_loadW rfl rfl rfl (by first | rfl | (simp only [cellsD]; rfl))) ?_
    | refine c_pick (d_call rfl (by kernel_rfl) rfl (by first | exact c1 | exact c2 | exact c3 | exact c10)) ?_
    | fail)
    all_goals exact PLe.refl _
  · rw [if_neg (by decide), if_neg (by decide), if_neg (by decide), if_neg (by decide), if_neg (by decide)]
    repeat' (first
    | refine run_seq ?_
    | (refine k_pick rfl ?_; first | refine k_assignD rfl rfl ?_ | refine k_moveD rfl rfl ?_ | refine k_loadW rfl rfl rfl (by first | rfl | (simp only [cellsD]; rfl)) ?_ | refine k_bin2B rfl rfl rfl rfl ?_ | refine k_boxW rfl rfl rfl (by first | rfl | (simp only [cellsD]; rfl)) ?_ | refine k_call rfl (by kernel_rfl) rfl (by first | exact c1 | exact c2 | exact c3) ?_)
    | refine run_opsEnd ?_
    | refine run_region ?_
    | refine run_condF rfl (by first | rfl | assumption) ?_
    | refine run_block ?_
    | refine run_blkEnd ?_
    | refine run_skip ?_
    | refine run_retOk (resOk_tmp rfl rfl ?_)
    | refine run_drawC (by kernel_rfl) ?_
    | refine c_nil (And.intro (by kernel_rfl) ?_)
    | refine c_pick (d_assignD rfl rfl) ?_
    | refine c_pick (d_loadW rfl rfl rfl (by first | rfl | (simp only [cellsD]; rfl))) ?_
    | refine c_pick (d_call rfl (by kernel_rfl) rfl (by first | exact c1 | exact c2 | exact c3)) ?_
    | fail)
    all_goals exact PLe.refl _
theorem sPlain_p : ∀ (x y : GV), PlG x → PlG y → PCall Tryz.prog 84 [qV x, qV y] (.val (.int .i64 (cmpP x y)))
  | .mk k n f s ks l, .mk k' n' f' s' ks' l', hx, hy => sPlain_p1 _ _ hx hy (fun a ha b hb => sPlain_p a b (PlGs_mem (by simp only [PlG] at hx; exact hx.2) a ha) (PlGs_mem (by simp only [PlG] at hy; exact hy.2) b hb))
termination_by x => SizeOf.sizeOf x
decreasing_by
  simp_wf
  have ha : a ∈ l := ha
  have := List.sizeOf_lt_of_mem ha
  omega
end Go.Proofs.YtbbacpdbbmjblaaGreat
end
section
set_option linter.unusedVariables false
namespace Go.Proofs.YtbbacpdbbmjblaaGreat
open Go.RowKit
set_option linter.unusedSimpArgs false
theorem PlG_un : ∀ j : JV, JOk j → PlG (unJ j) := by
  intro j
  induction hk : SizeOf.sizeOf j using Nat.strongRecOn generalizing j with
  | _ n IH =>
  subst hk
  intro hj
  cases j with
  | list l =>
    unfold JOk at hj
    rw [show unJ (.list l) = .mk 5 0 0 ByteArray.empty [] (unJs l) by unfold unJ; rfl]
    unfold PlG
    refine ⟨by simp, ?_⟩
    have : ∀ (r : List JV), (∀ y ∈ r, y ∈ l) → JOks r → PlGs (unJs r) := by
      intro r
      induction r with
      | nil => intro _ _; simp only [unJs, PlGs]
      | cons x r ih =>
        intro h hr
        simp only [JOks] at hr
        simp only [unJs, PlGs]
        exact ⟨IH (SizeOf.sizeOf x) (by have := List.sizeOf_lt_of_mem (h x (by simp)); simp; omega) x rfl hr.1, ih (fun y hy => h y (by simp [hy])) hr.2⟩
    exact this l (fun _ h => h) hj.2
  | map m =>
    unfold JOk at hj
    obtain ⟨ks, l, e, hi, hl, hk, hg⟩ := unM_form hj.1
    rw [show unJ (.map m) = unM m gMap by unfold unJ; rfl, e]
    unfold PlG
    refine ⟨by omega, ?_⟩
    have key : ∀ x ∈ l, PlG x := by
      intro x hx
      obtain ⟨i, hi⟩ := List.getElem?_of_mem hx
      have hil := (List.getElem?_eq_some_iff.1 hi).1
      obtain ⟨k, hkk⟩ : ∃ k, ks[i]? = some k := ⟨_, List.getElem?_eq_getElem (by omega)⟩
      obtain ⟨j, hj1, hj2⟩ := (hg k x).1 ⟨i, hkk, hi⟩
      rw [← hj2]
      have hm := getA_mem hj1
      refine IH (SizeOf.sizeOf j) ?_ j rfl (JOkm_mem hj.2.2 _ hm)
      have := List.sizeOf_lt_of_mem hm
      simp at this ⊢
      omega
    clear hg hl e
    induction l with
    | nil => simp only [PlGs]
    | cons x r ih => simp only [PlGs]; exact ⟨key x (by simp), ih (fun y hy => key y (by simp [hy]))⟩
  | null => rw [show unJ .null = .mk 0 0 0 ByteArray.empty [] [] by unfold unJ; rfl]; unfold PlG; exact ⟨by simp, by simp only [PlGs]⟩
  | bool b => rw [show unJ (.bool b) = .mk 1 (if b then 1 else 0) 0 ByteArray.empty [] [] by unfold unJ; rfl]; unfold PlG; exact ⟨by simp, by simp only [PlGs]⟩
  | int b => rw [show unJ (.int b) = .mk 2 b 0 ByteArray.empty [] [] by unfold unJ; rfl]; unfold PlG; exact ⟨by simp, by simp only [PlGs]⟩
  | flt b => rw [show unJ (.flt b) = .mk 3 0 b ByteArray.empty [] [] by unfold unJ; rfl]; unfold PlG; exact ⟨by simp, by simp only [PlGs]⟩
  | str b => rw [show unJ (.str b) = .mk 4 0 0 b [] [] by unfold unJ; rfl]; unfold PlG; exact ⟨by simp, by simp only [PlGs]⟩
theorem PlG_clean {x : GV} (h : Fits (qV x)) : PlG (cleanV x) := by
  obtain ⟨w0, F0, v0, h0⟩ := h
  rw [← un_plain]
  exact PlG_un _ (plain_ok x (IsV.gok x (rep_isV x (by rw [pdV_eq]; exact h0))))
theorem sCmpVals_p (x y : GV) : PCall Tryz.prog 55 [qV x, qV y] (.val (.int .i64 (cmpP (cleanV x) (cleanV y)))) := by
  refine pcall_fits fun hf => ?_
  have c3 := sPlain_p (cleanV x) (cleanV y) (PlG_clean (hf (qV x) (by simp))) (PlG_clean (hf (qV y) (by simp)))
  clear hf
  have c1 := clean_p x
  have c2 := clean_p y
  generalize cleanV x = x' at *
  generalize cleanV y = y' at *
  refine pcall_of_run Tryz.func55 rfl Tryz.ntmps55 rfl (fun X => ?_)
  repeat' (first
    | refine run_seq ?_
    | (refine k_pick rfl ?_; first | refine k_assignD rfl rfl ?_ | refine k_boxW rfl rfl rfl (by first | rfl | (simp only [cellsD]; rfl)) ?_)
    | refine run_opsEnd ?_
    | refine run_region ?_
    | refine run_retOk (resOk_tmp rfl rfl ?_)
    | refine run_drawC (by kernel_rfl) ?_
    | refine c_nil (And.intro (by kernel_rfl) ?_)
    | refine c_pick (d_assignD rfl rfl) ?_
    | refine c_pick (d_loadW rfl rfl rfl (by first | rfl | (simp only [cellsD]; rfl))) ?_
    | refine c_pick (d_call rfl (by kernel_rfl) rfl (by first | exact c1 | exact c2 | exact c3)) ?_
    | fail)
  all_goals exact PLe.refl _
end Go.Proofs.YtbbacpdbbmjblaaGreat
end
