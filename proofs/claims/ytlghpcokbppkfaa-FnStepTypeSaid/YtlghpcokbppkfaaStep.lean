/- The law FnStepType answers true. -/
import Derived.Test.YtlghpcokbppkfaaPE
set_option linter.unusedVariables false
namespace Go.Proofs.Ytlghpcokbppkfaa
open Go.RowKit
set_option linter.unusedSimpArgs false
set_option maxRecDepth 10000
set_option maxHeartbeats 2000000

/-! ### A comparison by a fact on its operands -/
section
variable {P : Program} {X : Base} {N : Nat} {Q : Exit → Act → World → Prop} {ops : Array Oper} {rem : List Nat} {ks : List Itm} {s s' : Sta}
def CmpH (P : Program) (op : BinOp) (t : Nat) (x y : Operand) (dx dy : PD) (r : Bool) : Prop :=
  ∀ (w : World) (F : Nat → Prop) (u v : Value), Rep w F dx u → Rep w F dy v → (eqGuard op t x y u v).run P w = .ok () w ∧ (binOp op t u v).run P w = .ok (.bool r) w
theorem op_cmpH {o : Oper} (hd : dstOk X.N o.dst = true) {op : BinOp} {t t' : TypeId} {x y : Operand} (ho : o.op = .binOp op t x y t') {dx dy : PD} {r : Bool} (hx : s.ev x = .dat dx) (hy : s.ev y = .dat dy) (h : CmpH P op t x y dx dy r) :
    OpS P X o s (s.put o.dst (.dat (.val (.bool r)))) := by
  refine opS_value hd fun a w ρ hcc => ⟨.bool r, ?_, by unfold VR Rep; exact ⟨rfl, trivial⟩⟩
  have h1 := hcc.ev x
  have h2 := hcc.ev y
  rw [hx] at h1
  rw [hy] at h2
  unfold VR at h1 h2
  obtain ⟨e1, e2⟩ := h _ _ _ _ h1 h2
  simp [execOp, ho, Sem.run_bind, e1, e2]
theorem k_cmpH {d : Nat} {x y : Operand} {op : BinOp} {t t' : Nat} {dx dy : PD} {r : Bool} (hN : Nat.blt d N = true) (hx : s.ev x = .dat dx) (hy : s.ev y = .dat dy) (hr : CmpH P op t x y dx dy r) (h : Run P X N Q (.ops ops rem :: ks) (s.put (some d) (.dat (.val (.bool r))))) : RunK P X N Q ops rem ks (some d) (.binOp op t x y t') s := k_of hN (fun _ _ _ hd => op_cmpH hd rfl hx hy hr) h
theorem d_cmpH {ops : List Oper} {d : Nat} {x y : Operand} {op : BinOp} {t t' : Nat} {dx dy : PD} {r : Bool} (hN : Nat.blt d N = true) (hx : s.ev x = .dat dx) (hy : s.ev y = .dat dy) (hr : CmpH P op t x y dx dy r) : TrK P X N ops (some d) (.binOp op t x y t') (Eff.put (some d) (.dat (.val (.bool r)))) s (s.put (some d) (.dat (.val (.bool r)))) :=
  act_val hN fun s' _ _ _ _ hd hev htb => op_cmpH hd rfl ((hev _ (by simp [Op.operands, Call.operands])).trans hx) ((hev _ (by simp [Op.operands, Call.operands])).trans hy) hr
end

/-- A type reference that is not the empty one. -/
def nzR (r : TR) : Bool := r.named || decide (r.rel ≠ ⟨#[]⟩) || decide (r.atom.scalar ≠ ⟨#[]⟩) || decide (r.atom.lists ≠ []) || decide (r.atom.maps ≠ [])
def ptrK (b : Bool) (v : Value) : Prop := if b then ∃ q, v = .pointer (some q) else v = .pointer none
theorem optS_k {w : World} {F : Nat → Prop} {s : ByteArray} {v : Value} (h : Rep w F (optS s) v) : ptrK (decide (s ≠ ⟨#[]⟩)) v := by
  by_cases e : s = ⟨#[]⟩
  · rw [optS_no e] at h
    unfold nilP Rep at h
    simp [ptrK, e, h.1]
  · rw [optS_some e] at h
    unfold Rep at h
    obtain ⟨b, o, u, rfl, _⟩ := h
    simp [ptrK, e]
theorem ptr_k {w : World} {F : Nat → Prop} {d : PD} {v : Value} (h : Rep w F (.ptr d) v) : ptrK true v := by
  unfold Rep at h
  obtain ⟨b, o, u, rfl, _⟩ := h
  simp [ptrK]
theorem nil_k {w : World} {F : Nat → Prop} {v : Value} (h : Rep w F nilP v) : ptrK false v := by
  unfold nilP Rep at h
  simp [ptrK, h.1]
theorem hdL_k {w : World} {F : Nat → Prop} {l : List TL} {v : Value} (h : Rep w F (hdL l) v) : ptrK (decide (l ≠ [])) v := by
  cases l with
  | nil => simpa using nil_k (by unfold hdL at h; exact h)
  | cons x r => simpa using ptr_k (by unfold hdL at h; exact h)
theorem hdM_k {w : World} {F : Nat → Prop} {l : List TM} {v : Value} (h : Rep w F (hdM l) v) : ptrK (decide (l ≠ [])) v := by
  cases l with
  | nil => simpa using nil_k (by unfold hdM at h; exact h)
  | cons x r => simpa using ptr_k (by unfold hdM at h; exact h)
def zTR : PD := .agg [.val (.pointer none), .val (.pointer none), .val (.pointer none), .val (.pointer none), .val (.pointer none), .val (.bool false)]
set_option maxRecDepth 100000 in
theorem cmpTR (x y : Operand) (r : TR) : CmpH Try.prog .neq 120 x y (pTR r) zTR (nzR r) := by
  intro w F u v hu hv
  unfold zTR Rep at hv
  obtain ⟨vs, rfl, hv, -⟩ := hv
  simp only [Reps] at hv
  obtain ⟨v0, _, rfl, e0, v1, _, rfl, e1, v2, _, rfl, e2, v3, _, rfl, e3, v4, _, rfl, e4, v5, _, rfl, e5, rfl⟩ := hv
  unfold Rep at e0 e1 e2 e3 e4 e5
  obtain ⟨rfl, -⟩ := e0
  obtain ⟨rfl, -⟩ := e1
  obtain ⟨rfl, -⟩ := e2
  obtain ⟨rfl, -⟩ := e3
  obtain ⟨rfl, -⟩ := e4
  obtain ⟨rfl, -⟩ := e5
  have hk : ∃ b0 b1 b2 b3 b4 u0 u1 u2 u3 u4, u = .agg #[u0, u1, u2, u3, u4, .bool false] ∧ ptrK b0 u0 ∧ ptrK b1 u1 ∧ ptrK b2 u2 ∧ ptrK b3 u3 ∧ ptrK b4 u4 ∧ nzR r = (b0 || b1 || b2 || b3 || b4) := by
    unfold pTR Rep at hu
    obtain ⟨us, rfl, hu, -⟩ := hu
    simp only [Reps] at hu
    obtain ⟨u0, _, rfl, e0, u1, _, rfl, e1, u2, _, rfl, e2, u3, _, rfl, e3, u4, _, rfl, e4, u5, _, rfl, e5, rfl⟩ := hu
    unfold Rep at e5
    obtain ⟨rfl, -⟩ := e5
    obtain ⟨b, n, a, rl⟩ := r
    cases b
    · simp only [r1, r2, r3, r4, TR.named, TR.name, TR.atom, TR.rel, Bool.false_eq_true, if_false] at e0 e1 e2 e3 e4
      refine ⟨false, _, _, _, _, u0, u1, u2, u3, u4, rfl, nil_k e0, optS_k e1, hdL_k e2, hdM_k e3, optS_k e4, ?_⟩
      simp only [nzR, TR.named, TR.rel, TR.atom, Bool.false_or]
      by_cases q1 : rl = ⟨#[]⟩ <;> by_cases q2 : a.scalar = ⟨#[]⟩ <;> by_cases q3 : a.lists = [] <;> by_cases q4 : a.maps = [] <;> simp [q1, q2, q3, q4]
    · simp only [r1, r2, r3, r4, TR.named, TR.name, TR.atom, TR.rel, if_true] at e0 e1 e2 e3 e4
      refine ⟨true, false, false, false, _, u0, u1, u2, u3, u4, rfl, ptr_k e0, nil_k e1, nil_k e2, nil_k e3, optS_k e4, ?_⟩
      simp [nzR, TR.named]
  obtain ⟨b0, b1, b2, b3, b4, u0, u1, u2, u3, u4, rfl, k0, k1, k2, k3, k4, e⟩ := hk
  rw [e]
  refine ⟨by kernel_rfl, ?_⟩
  cases b0
  case true => simp only [ptrK, if_true] at k0; obtain ⟨q, rfl⟩ := k0; kernel_rfl
  simp only [ptrK, Bool.false_eq_true, if_false] at k0; subst k0
  cases b1
  case true => simp only [ptrK, if_true] at k1; obtain ⟨q, rfl⟩ := k1; kernel_rfl
  simp only [ptrK, Bool.false_eq_true, if_false] at k1; subst k1
  cases b2
  case true => simp only [ptrK, if_true] at k2; obtain ⟨q, rfl⟩ := k2; kernel_rfl
  simp only [ptrK, Bool.false_eq_true, if_false] at k2; subst k2
  cases b3
  case true => simp only [ptrK, if_true] at k3; obtain ⟨q, rfl⟩ := k3; kernel_rfl
  simp only [ptrK, Bool.false_eq_true, if_false] at k3; subst k3
  cases b4
  case true => simp only [ptrK, if_true] at k4; obtain ⟨q, rfl⟩ := k4; kernel_rfl
  simp only [ptrK, Bool.false_eq_true, if_false] at k4; subst k4
  kernel_rfl

/-- The type below a step. -/
def stepR (m : TM) : PEV → TR
  | .name s => ((lastF m.fields s).map TF.type).getD m.elem
  | _ => m.elem
theorem find_type (m : TM) (s : ByteArray) : lastF m.fields s = none ∨ ∃ f, lastF m.fields s = some f := by cases lastF m.fields s <;> simp
theorem typeRef_p (m : TM) (p : PEV) : PCall Try.prog 119 [.ptr (tM m), pdPE p] (.tup [pTR (stepR m p), .val (.bool (nzR (stepR m p)))]) := by
  have cF := fun s => mFind_p m s
  refine pcall_of_run Try.func119 rfl Try.ntmps119 rfl (fun X => ?_)
  cases p with
  | name s =>
    have cF := mFind_p m s
    rcases find_type m s with h | ⟨f, h⟩
    · have e : stepR m (.name s) = m.elem := by simp [stepR, h]
      rw [h] at cF
      simp only [Option.getD_none, Option.isSome_none] at cF
      rw [e]
      unfold pdPE
      repeat' (first
    | refine run_seq ?_
    | (refine k_pick rfl ?_; first | refine k_assignD rfl rfl ?_ | refine k_moveD rfl rfl ?_ | refine k_fieldAddrB rfl rfl rfl ?_ | refine k_loadBD rfl rfl rfl (by first | rfl | (simp only [tM_eq, tF_eq, cellsD]; rfl)) ?_ | refine k_boxW rfl rfl rfl (by first | rfl | (simp only [tM_eq, tF_eq, cellsD]; rfl)) ?_ | refine k_call rfl (by kernel_rfl) rfl (by first | exact cF | (simp only [← tM_eq, ← tF_eq]; exact cF)) ?_ | refine k_extract rfl rfl rfl ?_ | refine k_nilD rfl rfl ?_ | refine k_cmpNil rfl rfl rfl (by kernel_rfl) (by first | exact NilIs.ptr | exact NilIs.none | exact NilIs.nilI | assumption) rfl ?_ | refine k_storeB rfl rfl rfl rfl rfl ?_ | refine k_fieldAddrD rfl rfl (by first | rfl | exact tM_eq _ | exact tF_eq _) rfl (by first | rfl | (simp only [tM_eq, tF_eq, cellsD]; rfl)) ?_ | refine k_loadD rfl rfl (by first | rfl | (simp only [tM_eq, tF_eq, cellsD]; rfl)) ?_ | refine k_alloc rfl rfl ?_)
    | refine run_opsEnd ?_
    | refine run_region ?_
    | refine run_condT rfl (by first | rfl | assumption) ?_
    | refine run_condF rfl (by first | rfl | assumption) ?_
    | refine run_skip ?_
    | refine run_retOk (resOk_cellTmp rfl rfl rfl (by first | rfl | (simp only [tM_eq, tF_eq, cellsD]; rfl)) rfl ?_ ?_)
    | refine run_drawC (by kernel_rfl) ?_
    | refine c_nil (And.intro (by kernel_rfl) ?_)
    | refine c_pick (d_cmpH rfl rfl rfl (cmpTR _ _ m.elem)) ?_
    | refine c_pick (d_assignD rfl rfl) ?_
    | refine c_pick (d_loadBD rfl rfl rfl (by first | rfl | (simp only [tM_eq, tF_eq, cellsD]; rfl))) ?_
    | refine c_pick (d_storeB rfl rfl rfl rfl rfl) ?_
    | refine c_pick (d_build rfl rfl rfl) ?_
    | fail)
      all_goals exact PLe.of_eq rfl
    · have e : stepR m (.name s) = f.type := by simp [stepR, h]
      rw [h] at cF
      simp only [Option.getD_some, Option.isSome_some] at cF
      rw [e]
      unfold pdPE
      repeat' (first
    | refine run_seq ?_
    | (refine k_pick rfl ?_; first | refine k_assignD rfl rfl ?_ | refine k_moveD rfl rfl ?_ | refine k_fieldAddrB rfl rfl rfl ?_ | refine k_loadBD rfl rfl rfl (by first | rfl | (simp only [tM_eq, tF_eq, cellsD]; rfl)) ?_ | refine k_boxW rfl rfl rfl (by first | rfl | (simp only [tM_eq, tF_eq, cellsD]; rfl)) ?_ | refine k_call rfl (by kernel_rfl) rfl (by first | exact cF | (simp only [← tM_eq, ← tF_eq]; exact cF)) ?_ | refine k_extract rfl rfl rfl ?_ | refine k_nilD rfl rfl ?_ | refine k_cmpNil rfl rfl rfl (by kernel_rfl) (by first | exact NilIs.ptr | exact NilIs.none | exact NilIs.nilI | assumption) rfl ?_ | refine k_storeB rfl rfl rfl rfl rfl ?_ | refine k_storeW rfl rfl rfl (by first | rfl | (simp only [tM_eq, tF_eq, cellsD]; rfl)) (by first | rfl | (simp only [tM_eq, tF_eq, cellsD]; rfl)) rfl ?_ | refine k_fieldAddrD rfl rfl (by first | rfl | exact tM_eq _ | exact tF_eq _) rfl (by first | rfl | (simp only [tM_eq, tF_eq, cellsD]; rfl)) ?_ | refine k_loadD rfl rfl (by first | rfl | (simp only [tM_eq, tF_eq, cellsD]; rfl)) ?_ | refine k_alloc rfl rfl ?_)
    | refine run_opsEnd ?_
    | refine run_region ?_
    | refine run_condT rfl (by first | rfl | assumption) ?_
    | refine run_retOk (resOk_cellTmp rfl rfl rfl (by first | rfl | (simp only [tM_eq, tF_eq, cellsD]; rfl)) rfl ?_ ?_)
    | refine run_drawC (by kernel_rfl) ?_
    | refine c_nil (And.intro (by kernel_rfl) ?_)
    | refine c_pick (d_cmpH rfl rfl rfl (cmpTR _ _ f.type)) ?_
    | refine c_pick (d_assignD rfl rfl) ?_
    | refine c_pick (d_loadBD rfl rfl rfl (by first | rfl | (simp only [tM_eq, tF_eq, cellsD]; rfl))) ?_
    | refine c_pick (d_storeB rfl rfl rfl rfl rfl) ?_
    | refine c_pick (d_build rfl rfl rfl) ?_
    | fail)
      all_goals exact PLe.of_eq rfl
  | _ =>
    unfold pdPE
    repeat' (first
    | refine run_seq ?_
    | (refine k_pick rfl ?_; first | refine k_assignD rfl rfl ?_ | refine k_moveD rfl rfl ?_ | refine k_fieldAddrB rfl rfl rfl ?_ | refine k_loadBD rfl rfl rfl (by first | rfl | (simp only [tM_eq, tF_eq, cellsD]; rfl)) ?_ | refine k_boxW rfl rfl rfl (by first | rfl | (simp only [tM_eq, tF_eq, cellsD]; rfl)) ?_ | refine k_nilD rfl rfl ?_ | refine k_cmpNil rfl rfl rfl (by kernel_rfl) (by first | exact NilIs.ptr | exact NilIs.none | exact NilIs.nilI | assumption) rfl ?_ | refine k_storeB rfl rfl rfl rfl rfl ?_ | refine k_fieldAddrD rfl rfl (by first | rfl | exact tM_eq _ | exact tF_eq _) rfl (by first | rfl | (simp only [tM_eq, tF_eq, cellsD]; rfl)) ?_ | refine k_loadD rfl rfl (by first | rfl | (simp only [tM_eq, tF_eq, cellsD]; rfl)) ?_ | refine k_alloc rfl rfl ?_)
    | refine run_opsEnd ?_
    | refine run_region ?_
    | refine run_condF rfl (by first | rfl | assumption) ?_
    | refine run_skip ?_
    | refine run_retOk (resOk_cellTmp rfl rfl rfl (by first | rfl | (simp only [tM_eq, tF_eq, cellsD]; rfl)) rfl ?_ ?_)
    | refine run_drawC (by kernel_rfl) ?_
    | refine c_nil (And.intro (by kernel_rfl) ?_)
    | refine c_pick (d_cmpH rfl rfl rfl (cmpTR _ _ m.elem)) ?_
    | refine c_pick (d_assignD rfl rfl) ?_
    | refine c_pick (d_loadBD rfl rfl rfl (by first | rfl | (simp only [tM_eq, tF_eq, cellsD]; rfl))) ?_
    | refine c_pick (d_storeB rfl rfl rfl rfl rfl) ?_
    | refine c_pick (d_build rfl rfl rfl) ?_
    | fail)
    all_goals exact PLe.of_eq rfl
theorem doorStep_p (m : TM) (p : PEV) : PCall Try.prog 82 [.ptr (tM m), pdPE p] (.tup [pTR (stepR m p), .val (.bool (nzR (stepR m p)))]) := by
  have c := typeRef_p m p
  refine pcall_of_run Try.func82 rfl Try.ntmps82 rfl (fun X => ?_)
  cases p <;> unfold pdPE at c ⊢
  · repeat' (first
    | refine run_seq ?_
    | (refine k_pick rfl ?_; first | refine k_assignD rfl rfl ?_ | refine k_moveD rfl rfl ?_ | refine k_loadW rfl rfl rfl (by first | rfl | (simp only [tM_eq, tF_eq, cellsD]; rfl)) ?_ | refine k_boxW rfl rfl rfl (by first | rfl | (simp only [tM_eq, tF_eq, cellsD]; rfl)) ?_ | refine k_call rfl (by kernel_rfl) rfl (by first | exact c | (simp only [← tM_eq, ← tF_eq]; exact c)) ?_ | refine k_extract rfl rfl rfl ?_ | refine k_storeB rfl rfl rfl rfl rfl ?_ | refine k_alloc rfl rfl ?_)
    | refine run_opsEnd ?_
    | refine run_region ?_
    | refine run_retOk (resOk_cellTmp rfl rfl rfl (by first | rfl | (simp only [tM_eq, tF_eq, cellsD]; rfl)) rfl ?_ ?_)
    | fail)
    all_goals exact PLe.of_eq rfl
  · repeat' (first
    | refine run_seq ?_
    | (refine k_pick rfl ?_; first | refine k_assignD rfl rfl ?_ | refine k_moveD rfl rfl ?_ | refine k_loadW rfl rfl rfl (by first | rfl | (simp only [tM_eq, tF_eq, cellsD]; rfl)) ?_ | refine k_boxW rfl rfl rfl (by first | rfl | (simp only [tM_eq, tF_eq, cellsD]; rfl)) ?_ | refine k_call rfl (by kernel_rfl) rfl (by first | exact c | (simp only [← tM_eq, ← tF_eq]; exact c)) ?_ | refine k_extract rfl rfl rfl ?_ | refine k_storeB rfl rfl rfl rfl rfl ?_ | refine k_alloc rfl rfl ?_)
    | refine run_opsEnd ?_
    | refine run_region ?_
    | refine run_retOk (resOk_cellTmp rfl rfl rfl (by first | rfl | (simp only [tM_eq, tF_eq, cellsD]; rfl)) rfl ?_ ?_)
    | fail)
    all_goals exact PLe.of_eq rfl
  · repeat' (first
    | refine run_seq ?_
    | (refine k_pick rfl ?_; first | refine k_assignD rfl rfl ?_ | refine k_moveD rfl rfl ?_ | refine k_loadW rfl rfl rfl (by first | rfl | (simp only [tM_eq, tF_eq, cellsD]; rfl)) ?_ | refine k_boxW rfl rfl rfl (by first | rfl | (simp only [tM_eq, tF_eq, cellsD]; rfl)) ?_ | refine k_call rfl (by kernel_rfl) rfl (by first | exact c | (simp only [← tM_eq, ← tF_eq]; exact c)) ?_ | refine k_extract rfl rfl rfl ?_ | refine k_storeB rfl rfl rfl rfl rfl ?_ | refine k_alloc rfl rfl ?_)
    | refine run_opsEnd ?_
    | refine run_region ?_
    | refine run_retOk (resOk_cellTmp rfl rfl rfl (by first | rfl | (simp only [tM_eq, tF_eq, cellsD]; rfl)) rfl ?_ ?_)
    | fail)
    all_goals exact PLe.of_eq rfl
  · repeat' (first
    | refine run_seq ?_
    | (refine k_pick rfl ?_; first | refine k_assignD rfl rfl ?_ | refine k_moveD rfl rfl ?_ | refine k_loadW rfl rfl rfl (by first | rfl | (simp only [tM_eq, tF_eq, cellsD]; rfl)) ?_ | refine k_boxW rfl rfl rfl (by first | rfl | (simp only [tM_eq, tF_eq, cellsD]; rfl)) ?_ | refine k_call rfl (by kernel_rfl) rfl (by first | exact c | (simp only [← tM_eq, ← tF_eq]; exact c)) ?_ | refine k_extract rfl rfl rfl ?_ | refine k_storeB rfl rfl rfl rfl rfl ?_ | refine k_alloc rfl rfl ?_)
    | refine run_opsEnd ?_
    | refine run_region ?_
    | refine run_retOk (resOk_cellTmp rfl rfl rfl (by first | rfl | (simp only [tM_eq, tF_eq, cellsD]; rfl)) rfl ?_ ?_)
    | fail)
    all_goals exact PLe.of_eq rfl
theorem fits_step {m : TM} (h : Fits (pdM m)) (p : PEV) : Fits (pdR (stepR m p)) := by
  cases p with
  | name s =>
    rcases find_type m s with e | ⟨f, e⟩
    · simp only [stepR, e]; exact (fits_M h).1
    · simp only [stepR, e]; exact fits_F ((fits_M h).2.2 f (lastF_mem s e))
  | _ => exact (fits_M h).1
theorem stepType_p (m : TM) (e : EV) : PCall Try.prog 30 [pdM m, pdE e] (.tup [qR (nR (stepR m (toPE e))), .val (.bool (nzR (stepR m (toPE e))))]) := by
  refine pcall_fits fun hfit => ?_
  have hk := (show Fits (pdM m) from hfit _ (by simp))
  have cT := toMap_c m
  have cE := toElem_p e
  have cF := doorStep_p m (toPE e)
  rw [tM_eq] at cF
  have cR := fromRef_c _ (fits_step hk (toPE e))
  generalize stepR m (toPE e) = r at *
  generalize toPE e = p at *
  refine pcall_of_run Try.func30 rfl Try.ntmps30 rfl (fun X => ?_)
  cases p <;> unfold pdPE at cE cF
  · repeat' (first
    | refine run_seq ?_
    | (refine k_pick rfl ?_; first | refine k_assignD rfl rfl ?_ | refine k_loadW rfl rfl rfl (by first | rfl | (simp only [pdM_eq, pdE, cellsD]; rfl)) ?_ | refine k_boxW rfl rfl rfl (by first | rfl | (simp only [pdM_eq, pdE, cellsD]; rfl)) ?_ | refine k_call rfl (by kernel_rfl) rfl (by first | exact cT | (simp only [← pdM_eq, ← pdE]; exact cT) | exact cE | (simp only [← pdM_eq, ← pdE]; exact cE)) ?_ | refine k_storeB rfl rfl rfl rfl rfl ?_ | refine k_alloc rfl rfl ?_)
    | refine run_opsEnd ?_
    | refine run_region ?_
    | fail)
    refine run_frz (fun t => t == 123) (fun k => k == 6) ?_
    repeat' (first
    | refine run_seq ?_
    | (refine k_pick rfl ?_; first | refine k_assignD rfl rfl ?_ | refine k_moveD rfl rfl ?_ | refine k_loadBD rfl rfl rfl (by first | rfl | (simp only [pdM_eq, pdE, cellsD]; rfl)) ?_ | refine k_call rfl (by kernel_rfl) rfl (by first | exact cT | (simp only [← pdM_eq, ← pdE]; exact cT) | exact cE | (simp only [← pdM_eq, ← pdE]; exact cE) | exact cF | (simp only [← pdM_eq, ← pdE]; exact cF) | exact cR | (simp only [← pdM_eq, ← pdE]; exact cR)) ?_ | refine k_extract rfl rfl rfl ?_ | refine k_storeB rfl rfl rfl rfl rfl ?_ | refine k_alloc rfl rfl ?_)
    | refine run_opsEnd ?_
    | refine run_region ?_
    | refine run_retOk (resOk_cellTmp rfl rfl rfl (by first | rfl | (simp only [pdM_eq, pdE, cellsD]; rfl)) rfl ?_ ?_)
    | fail)
    all_goals exact PLe.of_eq rfl
  · repeat' (first
    | refine run_seq ?_
    | (refine k_pick rfl ?_; first | refine k_assignD rfl rfl ?_ | refine k_loadW rfl rfl rfl (by first | rfl | (simp only [pdM_eq, pdE, cellsD]; rfl)) ?_ | refine k_boxW rfl rfl rfl (by first | rfl | (simp only [pdM_eq, pdE, cellsD]; rfl)) ?_ | refine k_call rfl (by kernel_rfl) rfl (by first | exact cT | (simp only [← pdM_eq, ← pdE]; exact cT) | exact cE | (simp only [← pdM_eq, ← pdE]; exact cE)) ?_ | refine k_storeB rfl rfl rfl rfl rfl ?_ | refine k_alloc rfl rfl ?_)
    | refine run_opsEnd ?_
    | refine run_region ?_
    | fail)
    refine run_frz (fun t => t == 123) (fun k => k == 6) ?_
    repeat' (first
    | refine run_seq ?_
    | (refine k_pick rfl ?_; first | refine k_assignD rfl rfl ?_ | refine k_moveD rfl rfl ?_ | refine k_loadBD rfl rfl rfl (by first | rfl | (simp only [pdM_eq, pdE, cellsD]; rfl)) ?_ | refine k_call rfl (by kernel_rfl) rfl (by first | exact cT | (simp only [← pdM_eq, ← pdE]; exact cT) | exact cE | (simp only [← pdM_eq, ← pdE]; exact cE) | exact cF | (simp only [← pdM_eq, ← pdE]; exact cF) | exact cR | (simp only [← pdM_eq, ← pdE]; exact cR)) ?_ | refine k_extract rfl rfl rfl ?_ | refine k_storeB rfl rfl rfl rfl rfl ?_ | refine k_alloc rfl rfl ?_)
    | refine run_opsEnd ?_
    | refine run_region ?_
    | refine run_retOk (resOk_cellTmp rfl rfl rfl (by first | rfl | (simp only [pdM_eq, pdE, cellsD]; rfl)) rfl ?_ ?_)
    | fail)
    all_goals exact PLe.of_eq rfl
  · repeat' (first
    | refine run_seq ?_
    | (refine k_pick rfl ?_; first | refine k_assignD rfl rfl ?_ | refine k_loadW rfl rfl rfl (by first | rfl | (simp only [pdM_eq, pdE, cellsD]; rfl)) ?_ | refine k_boxW rfl rfl rfl (by first | rfl | (simp only [pdM_eq, pdE, cellsD]; rfl)) ?_ | refine k_call rfl (by kernel_rfl) rfl (by first | exact cT | (simp only [← pdM_eq, ← pdE]; exact cT) | exact cE | (simp only [← pdM_eq, ← pdE]; exact cE)) ?_ | refine k_storeB rfl rfl rfl rfl rfl ?_ | refine k_alloc rfl rfl ?_)
    | refine run_opsEnd ?_
    | refine run_region ?_
    | fail)
    refine run_frz (fun t => t == 123) (fun k => k == 6) ?_
    repeat' (first
    | refine run_seq ?_
    | (refine k_pick rfl ?_; first | refine k_assignD rfl rfl ?_ | refine k_moveD rfl rfl ?_ | refine k_loadBD rfl rfl rfl (by first | rfl | (simp only [pdM_eq, pdE, cellsD]; rfl)) ?_ | refine k_call rfl (by kernel_rfl) rfl (by first | exact cT | (simp only [← pdM_eq, ← pdE]; exact cT) | exact cE | (simp only [← pdM_eq, ← pdE]; exact cE) | exact cF | (simp only [← pdM_eq, ← pdE]; exact cF) | exact cR | (simp only [← pdM_eq, ← pdE]; exact cR)) ?_ | refine k_extract rfl rfl rfl ?_ | refine k_storeB rfl rfl rfl rfl rfl ?_ | refine k_alloc rfl rfl ?_)
    | refine run_opsEnd ?_
    | refine run_region ?_
    | refine run_retOk (resOk_cellTmp rfl rfl rfl (by first | rfl | (simp only [pdM_eq, pdE, cellsD]; rfl)) rfl ?_ ?_)
    | fail)
    all_goals exact PLe.of_eq rfl
  · repeat' (first
    | refine run_seq ?_
    | (refine k_pick rfl ?_; first | refine k_assignD rfl rfl ?_ | refine k_loadW rfl rfl rfl (by first | rfl | (simp only [pdM_eq, pdE, cellsD]; rfl)) ?_ | refine k_boxW rfl rfl rfl (by first | rfl | (simp only [pdM_eq, pdE, cellsD]; rfl)) ?_ | refine k_call rfl (by kernel_rfl) rfl (by first | exact cT | (simp only [← pdM_eq, ← pdE]; exact cT) | exact cE | (simp only [← pdM_eq, ← pdE]; exact cE)) ?_ | refine k_storeB rfl rfl rfl rfl rfl ?_ | refine k_alloc rfl rfl ?_)
    | refine run_opsEnd ?_
    | refine run_region ?_
    | fail)
    refine run_frz (fun t => t == 123) (fun k => k == 6) ?_
    repeat' (first
    | refine run_seq ?_
    | (refine k_pick rfl ?_; first | refine k_assignD rfl rfl ?_ | refine k_moveD rfl rfl ?_ | refine k_loadBD rfl rfl rfl (by first | rfl | (simp only [pdM_eq, pdE, cellsD]; rfl)) ?_ | refine k_call rfl (by kernel_rfl) rfl (by first | exact cT | (simp only [← pdM_eq, ← pdE]; exact cT) | exact cE | (simp only [← pdM_eq, ← pdE]; exact cE) | exact cF | (simp only [← pdM_eq, ← pdE]; exact cF) | exact cR | (simp only [← pdM_eq, ← pdE]; exact cR)) ?_ | refine k_extract rfl rfl rfl ?_ | refine k_storeB rfl rfl rfl rfl rfl ?_ | refine k_alloc rfl rfl ?_)
    | refine run_opsEnd ?_
    | refine run_region ?_
    | refine run_retOk (resOk_cellTmp rfl rfl rfl (by first | rfl | (simp only [pdM_eq, pdE, cellsD]; rfl)) rfl ?_ ?_)
    | fail)
    all_goals exact PLe.of_eq rfl
end Go.Proofs.Ytlghpcokbppkfaa
