import Derived.Test.YtlghpcokbppkfaaValM
set_option linter.unusedVariables false
/- Equality of maps: the round over one of them. -/
namespace Go.Proofs.Ytlghpcokbppkfaa
open Go.RowKit
set_option linter.unusedSimpArgs false

/-- One field of the other map. -/
def eqG (m : List (ByteArray × JV)) (y : ByteArray × JV) : Bool := match lkJ m y.1 with | some x => eqJ x y.2 | none => false
theorem eqJm_all (m : List (ByteArray × JV)) : ∀ q : List (ByteArray × JV), eqJm m q = q.all (eqG m)
  | [] => by unfold eqJm; rfl
  | y :: q => by unfold eqJm; rw [eqJm_all m q, List.all_cons]; rfl
theorem eqClo_c (m : List (ByteArray × JV)) (y : ByteArray × JV) (hE : ∀ x, lkJ m y.1 = some x → PCall Try.prog 130 [dvA, dvV x, dvV y.2] (.val (.bool (eqJ x y.2)))) :
    ACall1 Try.prog 219 [.dat (.val (.string y.1)), .iface 205 (.ptr 1004 0), .ptr 1000 0, .ptr 1001 0, .ptr 1002 0]
    [(1000, .box 294 [.dat (dvMm m)]), (1001, .box 222 [.dat dvA]), (1002, .box 205 [.ptr 1003 0]), (1003, .box 233 [.any]), (1004, .box 233 [.dat (pdJ y.2)])]
    (.dat (.val (.bool (eqG m y))))
    [(1000, .box 294 [.dat (dvMm m)]), (1001, .box 222 [.dat dvA]), (1002, .box 205 [.ptr 1003 0]), (1003, .box 233 [.any]), (1004, .box 233 [.dat (pdJ y.2)])] := by
  refine acall_of_run Try.func219 rfl Try.ntmps219 rfl (fun X => ?_)
  cases hlk : lkJ m y.1 with
  | none =>
    have e : eqG m y = false := by unfold eqG; rw [hlk]
    rw [e]
    have hq : (!false) = true := rfl
    repeat' (first
    | refine run_seq ?_
    | (refine k_pick rfl ?_; first | refine k_assignD rfl rfl ?_ | refine k_moveD rfl rfl ?_ | refine k_loadBD rfl rfl rfl (by first | rfl | (simp only [cellsD]; rfl)) ?_ | refine k_extract rfl rfl rfl ?_ | refine k_not rfl rfl ?_ | refine k_lookM rfl rfl rfl (by assumption) ?_)
    | refine run_opsEnd ?_
    | refine run_region ?_
    | refine run_condT rfl (by first | rfl | assumption) ?_
    | fail)
    refine run_retA () id (tm := [(7, .dat (.val (.bool false)))]) ?_ (resA_tmp rfl rfl)
    (refine ⟨?_, ?_, by rfl⟩ <;> repeat' (first | exact trivial | exact ALe.ptr rfl | exact ALe.own rfl | exact ALe.elt rfl | exact BLe.boxD _ _ | exact BLe.row rfl | exact BLe.res | exact ALe.dat (PLe.refl _) | exact CLe.nil | refine And.intro ?_ ?_ | refine ALe.iface ?_ | refine ALe.clo ?_ | refine CLe.cons ?_ ?_ | refine BLe.box ?_ | refine BLe.row ?_ | exact ALe.any _ | refine ALe.dat (PLe.of_eq ?_)))
  | some x =>
    have hC := hE x hlk
    have e : eqG m y = eqJ x y.2 := by unfold eqG; rw [hlk]
    rw [e]
    repeat' (first
    | refine run_seq ?_
    | (refine k_pick rfl ?_; first | refine k_assignD rfl rfl ?_ | refine k_moveD rfl rfl ?_ | refine k_loadBD rfl rfl rfl (by first | rfl | (simp only [cellsD]; rfl)) ?_ | refine k_extract rfl rfl rfl ?_ | refine k_not rfl rfl ?_ | refine k_lookM rfl rfl rfl (by assumption) ?_)
    | refine run_opsEnd ?_
    | refine run_region ?_
    | refine run_condF rfl (by first | rfl | assumption) ?_
    | refine run_skip ?_
    | refine run_drawC (by kernel_rfl) ?_
    | refine c_nil (And.intro (by kernel_rfl) ?_)
    | refine c_pick (d_assignD rfl rfl) ?_
    | refine c_pick (d_moveD rfl rfl) ?_
    | refine c_pick (d_loadBD rfl rfl rfl (by first | rfl | (simp only [cellsD]; rfl))) ?_
    | refine c_pick (d_loadBP rfl rfl rfl rfl) ?_
    | refine c_pick (d_acallB (thk [(1000, _)] 200) rfl (by kernel_rfl) ((reuse_c .any _)) rfl rfl rfl rfl rfl) ?_
    | refine c_pick (d_moveI rfl rfl) ?_
    | refine c_pick (d_callZ gV rfl (by kernel_rfl) rfl (by first | exact hC) Flat.val) ?_
    | fail)
    refine run_retA () id (tm := [(7, .dat (.val (.bool (eqJ x y.2))))]) ?_ (resA_tmp rfl rfl)
    (refine ⟨?_, ?_, by rfl⟩ <;> repeat' (first | exact trivial | exact ALe.ptr rfl | exact ALe.own rfl | exact ALe.elt rfl | exact BLe.boxD _ _ | exact BLe.row rfl | exact BLe.res | exact ALe.dat (PLe.refl _) | exact CLe.nil | refine And.intro ?_ ?_ | refine ALe.iface ?_ | refine ALe.clo ?_ | refine CLe.cons ?_ ?_ | refine BLe.box ?_ | refine BLe.row ?_ | exact ALe.any _ | refine ALe.dat (PLe.of_eq ?_)))
set_option maxHeartbeats 4000000 in
theorem eqIter_c (m q : List (ByteArray × JV)) (hE : ∀ y ∈ q, ∀ x, lkJ m y.1 = some x → PCall Try.prog 130 [dvA, dvV x, dvV y.2] (.val (.bool (eqJ x y.2)))) :
    ACall1 Try.prog 214 [.dat (dvMm q), .dat dvA, .clo 219 [.ptr 1000 0, .ptr 1001 0, .ptr 1002 0]]
    [(1000, .box 294 [.dat (dvMm m)]), (1001, .box 222 [.dat dvA]), (1002, .box 205 [.ptr 1003 0]), (1003, .box 233 [.dat (.val .nilIface)])]
    (.dat (.val (.bool (q.all (eqG m)))))
    [(1000, .box 294 [.dat (dvMm m)]), (1001, .box 222 [.dat dvA]), (1002, .box 205 [.ptr 1003 0]), (1003, .box 233 [.any])] := by
  refine acall_of_run Try.func214 rfl Try.ntmps214 rfl (fun X => ?_)
  by_cases hn : q = []
  · subst hn
    have hq : decide (((([] : List (ByteArray × JV)).length : Nat) : Int) = 0) = true := rfl
    repeat' (first
    | refine run_seq ?_
    | (refine k_pick rfl ?_; first | refine k_assignD rfl rfl ?_ | refine k_moveD rfl rfl ?_ | refine k_bin2B rfl rfl rfl rfl ?_ | refine k_lenM rfl rfl ?_)
    | refine run_opsEnd ?_
    | refine run_region ?_
    | refine run_condT rfl (by first | rfl | assumption) ?_
    | fail)
    refine run_retA () id (tm := [(6, .dat (.val (.bool true)))]) ?_ (resA_tmp rfl rfl)
    (refine ⟨?_, ?_, by rfl⟩ <;> repeat' (first | exact trivial | exact ALe.ptr rfl | exact ALe.own rfl | exact ALe.elt rfl | exact BLe.boxD _ _ | exact BLe.row rfl | exact BLe.res | exact ALe.dat (PLe.refl _) | exact CLe.nil | refine And.intro ?_ ?_ | refine ALe.iface ?_ | refine ALe.clo ?_ | refine CLe.cons ?_ ?_ | refine BLe.box ?_ | refine BLe.row ?_ | exact ALe.any _ | refine ALe.dat (PLe.of_eq ?_)))
  · have hq : decide (((q.length : Nat) : Int) = 0) = false := by
      cases q with
      | nil => exact absurd rfl hn
      | cons x r => simp; omega
    repeat' (first
    | refine run_seq ?_
    | (refine k_pick rfl ?_; first | refine k_rangeM rfl rfl rfl ?_ | refine k_assignD rfl rfl ?_ | refine k_moveD rfl rfl ?_ | refine k_bin2B rfl rfl rfl rfl ?_ | refine k_assignP rfl rfl ?_ | refine k_moveP rfl rfl ?_ | refine k_invAS1 (thk [] 200) rfl rfl (by kernel_rfl) (alloc_c) rfl trivial rfl (freshB_ok rfl) rfl ?_ | refine k_nilI rfl rfl ?_ | refine k_ifaceP rfl rfl (by kernel_rfl) ?_ | refine k_lenM rfl rfl ?_ | refine k_deferA rfl free_idle ?_)
    | refine run_opsEnd ?_
    | refine run_region ?_
    | refine run_condF rfl (by first | rfl | assumption) ?_
    | refine run_block ?_
    | refine run_skip ?_
    | fail)
    refine run_loopS (ι := { done : List (ByteArray × JV) // (done.map (·.1)).Nodup ∧ (∀ y ∈ done, y ∈ q) ∧ ∀ y ∈ done, eqG m y = true })
      (fun k => [(2, .clo 219 [.ptr 1000 0, .ptr 1001 0, .ptr 1002 0]), (7, .ptr 200 0), (20, .own 20)])
      (fun k => [(20, .res (itR q k.1)), (200, .box 233 [.any]), (1000, .box 294 [.dat (dvMm m)]), (1001, .box 222 [.dat dvA]), (1002, .box 205 [.ptr 1003 0]), (1003, .box 233 [.any])])
      (fun k => q.length - k.1.length) ⟨[], by simp, by simp, by simp⟩ id ?_ ?_
    · (refine ⟨?_, ?_, by rfl⟩ <;> repeat' (first | exact trivial | exact ALe.ptr rfl | exact ALe.own rfl | exact ALe.elt rfl | exact BLe.boxD _ _ | exact BLe.row rfl | exact BLe.res | exact ALe.dat (PLe.refl _) | exact CLe.nil | refine And.intro ?_ ?_ | refine ALe.iface ?_ | refine ALe.clo ?_ | refine CLe.cons ?_ ?_ | refine BLe.box ?_ | refine BLe.row ?_ | exact ALe.any _ | refine ALe.dat (PLe.of_eq ?_)))
    rintro ⟨done, hnd, hsub, hall⟩
    repeat' (first
    | refine run_seq ?_
    | refine run_region ?_
    | fail)
    refine k_pick rfl (k_nextM rfl rfl rfl (fun hev => ?_) (fun y hy hny => ?_))
    · have e : q.all (eqG m) = true := List.all_eq_true.2 fun y hy => hall y (hev y hy)
      rw [e]
      repeat' (first
    | refine run_seq ?_
    | (refine k_pick rfl ?_; first | refine k_assignD rfl rfl ?_ | refine k_extract rfl rfl rfl ?_)
    | refine run_opsEnd ?_
    | refine run_region ?_
    | refine run_condF rfl (by first | rfl | assumption) ?_
    | refine run_exit rfl ?_
    | fail)
      refine run_retA () id (tm := [(6, .dat (.val (.bool true)))]) ?_ (resA_tmp rfl rfl)
      (refine ⟨?_, ?_, by rfl⟩ <;> repeat' (first | exact trivial | exact ALe.ptr rfl | exact ALe.own rfl | exact ALe.elt rfl | exact BLe.boxD _ _ | exact BLe.row rfl | exact BLe.res | exact ALe.dat (PLe.refl _) | exact CLe.nil | refine And.intro ?_ ?_ | refine ALe.iface ?_ | refine ALe.clo ?_ | refine CLe.cons ?_ ?_ | refine BLe.box ?_ | refine BLe.row ?_ | exact ALe.any _ | refine ALe.dat (PLe.of_eq ?_)))
    · have hC := eqClo_c m y (hE y hy)
      cases hr : eqG m y with
      | true =>
        rw [hr] at hC
        repeat' (first
    | refine run_seq ?_
    | (refine k_pick rfl ?_; first | refine k_entryM rfl rfl rfl ?_ | refine k_assignD rfl rfl ?_ | refine k_moveD rfl rfl ?_ | refine k_extract rfl rfl rfl ?_ | refine k_not rfl rfl ?_ | refine k_moveP rfl rfl ?_ | refine k_acall1 (thk [(1000, _)] 200) rfl (by kernel_rfl) (reuse_c .any _) rfl ⟨rfl, trivial⟩ rfl (freshB_ok rfl) rfl ?_ | refine k_cloA1 (thk [(1000, _), (1001, _), (1002, _), (1003, _), (1004, _)] 200) rfl rfl (by kernel_rfl) (hC) rfl ⟨rfl, ⟨rfl, ⟨rfl, ⟨rfl, ⟨rfl, trivial⟩⟩⟩⟩⟩ rfl (freshB_ok rfl) rfl ?_ | refine k_moveC rfl rfl ?_)
    | refine run_opsEnd ?_
    | refine run_region ?_
    | refine run_condT rfl (by first | rfl | assumption) ?_
    | refine run_condF rfl (by first | rfl | assumption) ?_
    | refine run_block ?_
    | refine run_blkEnd ?_
    | refine run_skip ?_
    | fail)
        refine run_again ?_
        refine ⟨⟨done ++ [y], ?_, ?_, ?_⟩, id, ?_, ?_⟩
        · rw [List.map_append, List.nodup_append]
          exact ⟨hnd, by simp, fun a ha b hb => by simp at hb; subst hb; exact fun e => hny (e ▸ ha)⟩
        · intro z hz
          rcases List.mem_append.1 hz with hz | hz
          · exact hsub z hz
          · simp at hz; rw [hz]; exact hy
        · intro z hz
          rcases List.mem_append.1 hz with hz | hz
          · exact hall z hz
          · simp at hz; rw [hz]; exact hr
        · have h1 : (done ++ [y]).length ≤ q.length := by
            have := nodup_len (a := (done ++ [y]).map (·.1)) (l := q.map (·.1)) (by
              rw [List.map_append, List.nodup_append]
              exact ⟨hnd, by simp, fun a ha b hb => by simp at hb; subst hb; exact fun e => hny (e ▸ ha)⟩) (fun x hx => by
              obtain ⟨z, hz, rfl⟩ := List.mem_map.1 hx
              rcases List.mem_append.1 hz with hz | hz
              · exact List.mem_map_of_mem (hsub z hz)
              · simp at hz; rw [hz]; exact List.mem_map_of_mem hy)
            simpa using this
          simp only [List.length_append, List.length_cons, List.length_nil] at h1 ⊢
          omega
        (refine ⟨?_, ?_, by rfl⟩ <;> repeat' (first | exact trivial | exact ALe.ptr rfl | exact ALe.own rfl | exact ALe.elt rfl | exact BLe.boxD _ _ | exact BLe.row rfl | exact BLe.res | exact ALe.dat (PLe.refl _) | exact CLe.nil | refine And.intro ?_ ?_ | refine ALe.iface ?_ | refine ALe.clo ?_ | refine CLe.cons ?_ ?_ | refine BLe.box ?_ | refine BLe.row ?_ | exact ALe.any _ | refine ALe.dat (PLe.of_eq ?_)))
      | false =>
        rw [hr] at hC
        have e : q.all (eqG m) = false := by
          cases h : q.all (eqG m) with
          | false => rfl
          | true => rw [List.all_eq_true.1 h y hy] at hr; cases hr
        rw [e]
        repeat' (first
    | refine run_seq ?_
    | (refine k_pick rfl ?_; first | refine k_entryM rfl rfl rfl ?_ | refine k_assignD rfl rfl ?_ | refine k_moveD rfl rfl ?_ | refine k_extract rfl rfl rfl ?_ | refine k_not rfl rfl ?_ | refine k_moveP rfl rfl ?_ | refine k_acall1 (thk [(1000, _)] 200) rfl (by kernel_rfl) (reuse_c .any _) rfl ⟨rfl, trivial⟩ rfl (freshB_ok rfl) rfl ?_ | refine k_cloA1 (thk [(1000, _), (1001, _), (1002, _), (1003, _), (1004, _)] 200) rfl rfl (by kernel_rfl) (hC) rfl ⟨rfl, ⟨rfl, ⟨rfl, ⟨rfl, ⟨rfl, trivial⟩⟩⟩⟩⟩ rfl (freshB_ok rfl) rfl ?_ | refine k_moveC rfl rfl ?_)
    | refine run_opsEnd ?_
    | refine run_region ?_
    | refine run_condT rfl (by first | rfl | assumption) ?_
    | refine run_block ?_
    | refine run_skip ?_
    | fail)
        refine run_retA () id (tm := [(6, .dat (.val (.bool false)))]) ?_ (resA_tmp rfl rfl)
        (refine ⟨?_, ?_, by rfl⟩ <;> repeat' (first | exact trivial | exact ALe.ptr rfl | exact ALe.own rfl | exact ALe.elt rfl | exact BLe.boxD _ _ | exact BLe.row rfl | exact BLe.res | exact ALe.dat (PLe.refl _) | exact CLe.nil | refine And.intro ?_ ?_ | refine ALe.iface ?_ | refine ALe.clo ?_ | refine CLe.cons ?_ ?_ | refine BLe.box ?_ | refine BLe.row ?_ | exact ALe.any _ | refine ALe.dat (PLe.of_eq ?_)))
end Go.Proofs.Ytlghpcokbppkfaa
