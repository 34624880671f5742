import Derived.Test.YtlghpcokbppkfaaVal
import Derived.Test.YtlghpcokbppkfaaOrderly
set_option linter.unusedVariables false
/- value.ListEqualsUsing and what it goes through; equality of trees. -/
namespace Go.Proofs.Ytlghpcokbppkfaa
open Go.RowKit
set_option linter.unusedSimpArgs false

mutual
/-- Two trees are equal: as value.Equals has it. -/
def eqJ : JV → JV → Bool
  | .flt a, .flt b => feq a b
  | .flt a, .int n => feq a (floatOfInt .f64 n)
  | .int n, .flt b => feq (floatOfInt .f64 n) b
  | .int a, .int b => decide (a = b)
  | .str a, .str b => decide (a = b)
  | .bool a, .bool b => a == b
  | .list a, .list b => eqJs a b
  | .map a, .map b => Nat.beq a.length b.length && eqJm a b
  | .null, .null => true
  | _, _ => false
termination_by _ k => SizeOf.sizeOf k
def eqJs : List JV → List JV → Bool
  | [], [] => true
  | x :: r, y :: q => eqJ x y && eqJs r q
  | _, _ => false
termination_by _ k => SizeOf.sizeOf k
def eqJm : List (ByteArray × JV) → List (ByteArray × JV) → Bool
  | _, [] => true
  | a, y :: q => (match lkJ a y.1 with | some x => eqJ x y.2 | none => false) && eqJm a q
termination_by _ k => SizeOf.sizeOf k
decreasing_by
  all_goals simp_wf
  · obtain ⟨y1, y2⟩ := y; simp; omega
  · omega
end

theorem eqJs_len : ∀ {a b : List JV}, eqJs a b = true → a.length = b.length
  | [], [], _ => rfl
  | x :: r, y :: q, h => by
    unfold eqJs at h
    simp only [Bool.and_eq_true] at h
    simp [eqJs_len h.2]
  | [], _ :: _, h => by simp [eqJs] at h
  | _ :: _, [], h => by simp [eqJs] at h
theorem eqJs_true : ∀ {a b : List JV}, a.length = b.length → (∀ (i : Nat) (x y : JV), a[i]? = some x → b[i]? = some y → eqJ x y = true) → eqJs a b = true
  | [], [], _, _ => by unfold eqJs; rfl
  | x :: r, y :: q, hl, h => by
    unfold eqJs
    rw [h 0 x y rfl rfl, eqJs_true (by simpa using hl) (fun i x y hx hy => h (i + 1) x y (by simpa using hx) (by simpa using hy))]
    rfl
  | [], _ :: _, hl, _ => by simp at hl
  | _ :: _, [], hl, _ => by simp at hl
theorem eqJs_false : ∀ {a b : List JV} {i : Nat} {x y : JV}, a[i]? = some x → b[i]? = some y → eqJ x y = false → eqJs a b = false
  | x' :: r, y' :: q, 0, x, y, hx, hy, h => by
    simp only [List.getElem?_cons_zero, Option.some.injEq] at hx hy
    subst hx hy
    unfold eqJs
    rw [h]; rfl
  | x' :: r, y' :: q, i + 1, x, y, hx, hy, h => by
    unfold eqJs
    rw [eqJs_false (by simpa using hx) (by simpa using hy) h]
    simp
  | [], _, _, _, _, hx, _, _ => by simp at hx
  | _ :: _, [], _, _, _, _, hy, _ => by simp at hy

theorem dvLs_len {w : World} {F : Nat → Prop} {l : List JV} {v : Value} (h : Rep w F (dvLs l) v) : l.length * 16 ≤ 140737488351232 := by
  unfold dvLs Rep at h
  obtain ⟨_, _, _, h, _⟩ := h
  exact h
theorem rangeCons_c (l : List JV) (h : l ≠ []) : ACall1 Try.prog 205 [.dat (dvLs l), .dat dvA] [] (.iface 309 (.ptr 0 0))
    [(0, .box 311 [.dat (dvLs l), .ptr 1 0, .dat (.val (.int .i64 (-1)))]), (1, .box 233 [.dat (.val .nilIface)])] := by
  refine acall_of_run Try.func205 rfl Try.ntmps205 rfl (fun X => ?_)
  have hq : decide (((l.length : Nat) : Int) = 0) = false := by
    cases l with
    | nil => exact absurd rfl h
    | cons x r => simp; omega
  repeat' (first
    | refine run_seq ?_
    | (refine k_pick rfl ?_; first | refine k_assignD rfl rfl ?_ | refine k_moveD rfl rfl ?_ | refine k_fieldAddrB rfl rfl rfl ?_ | refine k_bin2B rfl rfl rfl rfl ?_ | refine k_nilB rfl rfl ?_ | refine k_storeB rfl rfl rfl rfl rfl ?_ | refine k_assignP rfl rfl ?_ | refine k_moveP rfl rfl ?_ | refine k_invAS1 (thk [] 200) rfl rfl (by kernel_rfl) (allocR_c) rfl trivial rfl (freshB_ok rfl) rfl ?_ | refine k_assignI rfl rfl ?_ | refine k_ifaceP rfl rfl (by kernel_rfl) ?_ | refine k_lenJ rfl rfl ?_)
    | refine run_opsEnd ?_
    | refine run_region ?_
    | refine run_condF rfl (by first | rfl | assumption) ?_
    | refine run_skip ?_
    | fail)
  refine run_retA () (thk [(0, 200), (1, 201)] 0) (tm := [(4, .iface 309 (.ptr 0 0))]) ?_ (resA_tmp rfl rfl)
  (refine ⟨?_, ?_, by rfl⟩ <;> repeat' (first | exact trivial | exact ALe.ptr rfl | exact ALe.own rfl | exact ALe.elt rfl | exact BLe.boxD _ _ | exact BLe.row rfl | exact BLe.res | exact ALe.dat (PLe.refl _) | exact CLe.nil | refine And.intro ?_ ?_ | refine ALe.iface ?_ | refine ALe.clo ?_ | refine CLe.cons ?_ ?_ | refine BLe.box ?_ | refine BLe.row ?_ | exact ALe.any _ | refine ALe.dat (PLe.of_eq ?_)))
theorem next_c (l : List JV) (k : Nat) (hk : k ≤ 140737488351232) : ACall1 Try.prog 230 [.ptr 1000 0] [(1000, .box 311 [.dat (dvLs l), .ptr 1001 0, .dat (.val (.int .i64 ((k : Int) - 1)))]), (1001, .box 233 [.any])]
    (.dat (.val (.bool (decide ((k : Int) < (l.length : Int)))))) [(1000, .box 311 [.dat (dvLs l), .ptr 1001 0, .dat (.val (.int .i64 (k : Int)))]), (1001, .box 233 [.any])] := by
  refine acall_of_run Try.func230 rfl Try.ntmps230 rfl (fun X => ?_)
  repeat' (first
    | refine run_seq ?_
    | (refine k_pick rfl ?_; first | refine k_assignD rfl rfl ?_ | refine k_fieldAddrB rfl rfl rfl ?_ | refine k_loadBD rfl rfl rfl (by first | rfl | (simp only [cellsD]; rfl)) ?_ | refine k_nilB rfl rfl ?_ | refine k_storeB rfl rfl rfl rfl rfl ?_ | refine k_ariI rfl rfl rfl rfl (by first | omega | (dsimp only; omega)) ?_ | refine k_moveP rfl rfl ?_)
    | refine run_opsEnd ?_
    | refine run_region ?_
    | refine run_drawC (by kernel_rfl) ?_
    | refine c_nil (And.intro (by kernel_rfl) ?_)
    | refine c_pick (d_assignD rfl rfl) ?_
    | refine c_pick (d_fieldAddrB rfl rfl rfl) ?_
    | refine c_pick (d_loadBD rfl rfl rfl (by first | rfl | (simp only [cellsD]; rfl))) ?_
    | refine c_pick (d_bin2B rfl rfl rfl rfl) ?_
    | refine c_pick (d_nilB rfl rfl) ?_
    | refine c_pick (d_moveP rfl rfl) ?_
    | refine c_pick (d_lenJ rfl rfl) ?_
    | fail)
  refine run_retA () id (tm := [(2, .dat (.val (.bool (decide ((k : Int) < (l.length : Int))))))]) ?_ (resA_tmp rfl rfl)
  (refine ⟨?_, ?_, by rfl⟩ <;> repeat' (first | exact trivial | exact ALe.ptr rfl | exact ALe.own rfl | exact ALe.elt rfl | exact BLe.boxD _ _ | exact BLe.row rfl | exact BLe.res | exact ALe.dat (PLe.refl _) | exact CLe.nil | refine And.intro ?_ ?_ | refine ALe.iface ?_ | refine ALe.clo ?_ | refine CLe.cons ?_ ?_ | refine BLe.box ?_ | refine BLe.row ?_ | exact ALe.any _ | refine ALe.dat (PLe.of_eq ?_)))
  all_goals (rw [show (k : Int) - 1 + 1 = k by omega])
set_option maxHeartbeats 4000000 in
theorem item_c (l : List JV) (k : Nat) (j : JV) (hj : l[k]? = some j) : ACall1 Try.prog 229 [.ptr 1000 0] [(1000, .box 311 [.dat (dvLs l), .ptr 1001 0, .dat (.val (.int .i64 (k : Int)))]), (1001, .box 233 [.any])]
    (.tup [.dat (.val (.int .i64 (k : Int))), .iface 205 (.ptr 1001 0)]) [(1000, .box 311 [.dat (dvLs l), .ptr 1001 0, .dat (.val (.int .i64 (k : Int)))]), (1001, .box 233 [.dat (pdJ j)])] := by
  refine acall_of_run Try.func229 rfl Try.ntmps229 rfl (fun X => ?_)
  have hlt : k < l.length := (List.getElem?_eq_some_iff.1 hj).1
  have hq1 : decide (((k : Nat) : Int) < 0) = false := by simp
  have hq2 : decide (((l.length : Nat) : Int) ≤ (k : Int)) = false := by simp; omega
  repeat' (first
    | refine run_seq ?_
    | (refine k_pick rfl ?_; first | refine k_assignD rfl rfl ?_ | refine k_fieldAddrB rfl rfl rfl ?_ | refine k_loadBD rfl rfl rfl (by first | rfl | (simp only [cellsD]; rfl)) ?_ | refine k_bin2B rfl rfl rfl rfl ?_ | refine k_nilB rfl rfl ?_ | refine k_moveP rfl rfl ?_)
    | refine run_opsEnd ?_
    | refine run_region ?_
    | refine run_condF rfl (by first | rfl | assumption) ?_
    | refine run_skip ?_
    | refine run_drawC (by kernel_rfl) ?_
    | refine c_nil (And.intro (by kernel_rfl) ?_)
    | refine c_pick (d_assignD rfl rfl) ?_
    | refine c_pick (d_fieldAddrB rfl rfl rfl) ?_
    | refine c_pick (d_loadBD rfl rfl rfl (by first | rfl | (simp only [cellsD]; rfl))) ?_
    | refine c_pick (d_bin2B rfl rfl rfl rfl) ?_
    | refine c_pick (d_nilB rfl rfl) ?_
    | refine c_pick (d_loadD rfl rfl (by first | rfl | (simp only [cellsD]; rfl))) ?_
    | refine c_pick (d_moveP rfl rfl) ?_
    | refine c_pick (d_loadBP rfl rfl rfl rfl) ?_
    | refine c_pick (d_acallB (thk [(1000, _)] 200) rfl (by kernel_rfl) ((reuse_c .any _)) rfl rfl rfl rfl rfl) ?_
    | refine c_pick (d_assignI rfl rfl) ?_
    | refine c_pick (d_lenJ rfl rfl) ?_
    | refine c_pick (d_indexJ rfl rfl rfl (by assumption)) ?_
    | fail)
  refine run_retA () id (tm := [(2, .dat (.val (.int .i64 (k : Int)))), (3, .iface 205 (.ptr 1001 0))]) ?_ ?_
  rotate_left
  · show resA _ _ (mkTup [.dat (.val (.int .i64 (k : Int))), .iface 205 (.ptr 1001 0)]) _
    exact resA_tmp2 rfl rfl rfl
  (refine ⟨?_, ?_, by rfl⟩ <;> repeat' (first | exact trivial | exact ALe.ptr rfl | exact ALe.own rfl | exact ALe.elt rfl | exact BLe.boxD _ _ | exact BLe.row rfl | exact BLe.res | exact ALe.dat (PLe.refl _) | exact CLe.nil | refine And.intro ?_ ?_ | refine ALe.iface ?_ | refine ALe.clo ?_ | refine CLe.cons ?_ ?_ | refine BLe.box ?_ | refine BLe.row ?_ | exact ALe.any _ | refine ALe.dat (PLe.of_eq ?_)))

end Go.Proofs.Ytlghpcokbppkfaa
