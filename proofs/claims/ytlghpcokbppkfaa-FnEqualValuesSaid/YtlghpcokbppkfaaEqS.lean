import Derived.Test.YtlghpcokbppkfaaEngE
import Derived.Test.YtlghpcokbppkfaaNumber
import Derived.Test.YtlghpcokbppkfaaCleanAll
set_option linter.unusedVariables false
/- spec.equalPlain and spec.EqualValues. -/
namespace Go.Proofs.Ytlghpcokbppkfaa
open Go.RowKit
set_option linter.unusedSimpArgs false

theorem ordV_p (x : GV) : PCall Try.prog 46 [qV x] (.val (.bool (ordV x))) := by
  have := pcall_V1s (P := Try.prog) (f := 46) (x := x) (u := .bool (ordV x)) trivial (fun w v hv => (ord_any x).use w v hv)
  rw [pdV_eq] at this
  exact this
theorem number_p (x : GV) : PCall Try.prog 131 [qV x] (.val (.bool (isNum x))) := by
  have := pcall_V1s (P := Try.prog) (f := 131) (x := x) (u := .bool (isNum x)) trivial (fun w v hv => number_any x w v hv)
  rw [pdV_eq] at this
  exact this
theorem fits_f {x : GV} (h : Fits (qV x)) : (Lit.float .f64 x.f).wf = true := by
  obtain ⟨w, F, v, hv⟩ := h.aggAt 2 (d := .val (.float .f64 x.f)) rfl
  unfold Rep at hv
  exact hv.2
theorem asFloat_p (x : GV) : PCall Try.prog 132 [qV x] (.val (.float .f64 (asF x))) := by
  refine pcall_fits fun hf => ?_
  have hx := fits_f (hf _ (List.mem_singleton.2 rfl))
  have := pcall_V1s (P := Try.prog) (f := 132) (x := x) (u := .float .f64 (asF x)) (by
    show (Lit.float .f64 (asF x)).wf = true
    unfold asF
    split
    · exact floatOfInt_wf _ _
    · exact hx) (fun w v hv => asFloat_any x w v hv)
  rw [pdV_eq] at this
  exact this
theorem clean_p (x : GV) : PCall Try.prog 17 [qV x] (qV (cleanV x)) := by
  have := pcall_V1V (P := Try.prog) (f := 17) (x := x) (y := cleanV x) (fun w v hv => (clean_any x).use w v hv)
  rw [pdV_eq, pdV_eq] at this
  exact this

mutual
/-- Two plain values are equal. -/
def eqP : GV → GV → Bool
  | .mk k n f s ks l, .mk k' n' f' s' ks' l' =>
    if (isNum (.mk k n f s ks l) && isNum (.mk k' n' f' s' ks' l')) = true then
      (if k = 2 ∧ k' = 2 then decide (n = n') else feq (asF (.mk k n f s ks l)) (asF (.mk k' n' f' s' ks' l')))
    else decide (k = k') && (decide (n = n') && (decide (s = s') && (decide (ks = ks') && eqPs l l')))
def eqPs : List GV → List GV → Bool
  | [], [] => true
  | x :: r, y :: q => eqP x y && eqPs r q
  | _, _ => false
end
theorem eqPs_len : ∀ {a b : List GV}, eqPs a b = true → a.length = b.length
  | [], [], _ => rfl
  | x :: r, y :: q, h => by
    unfold eqPs at h
    simp only [Bool.and_eq_true] at h
    simp [eqPs_len h.2]
  | [], _ :: _, h => by simp [eqPs] at h
  | _ :: _, [], h => by simp [eqPs] at h
theorem eqPs_true : ∀ {a b : List GV}, a.length = b.length → (∀ (i : Nat) (x y : GV), a[i]? = some x → b[i]? = some y → eqP x y = true) → eqPs a b = true
  | [], [], _, _ => by unfold eqPs; rfl
  | x :: r, y :: q, hl, h => by
    unfold eqPs
    rw [h 0 x y rfl rfl, eqPs_true (by simpa using hl) (fun i x y hx hy => h (i + 1) x y (by simpa using hx) (by simpa using hy))]
    rfl
  | [], _ :: _, hl, _ => by simp at hl
  | _ :: _, [], hl, _ => by simp at hl
theorem eqPs_false : ∀ {a b : List GV} {i : Nat} {x y : GV}, a[i]? = some x → b[i]? = some y → eqP x y = false → eqPs a b = false
  | x' :: r, y' :: q, 0, x, y, hx, hy, h => by
    simp only [List.getElem?_cons_zero, Option.some.injEq] at hx hy
    subst hx hy
    unfold eqPs
    rw [h]; rfl
  | x' :: r, y' :: q, i + 1, x, y, hx, hy, h => by
    unfold eqPs
    rw [eqPs_false (by simpa using hx) (by simpa using hy) h]
    simp
  | [], _, _, _, _, hx, _, _ => by simp at hx
  | _ :: _, [], _, _, _, _, hy, _ => by simp at hy
theorem eqPs_all {a b : List GV} (h : eqPs a b = true) (i : Nat) (x y : GV) (hx : a[i]? = some x) (hy : b[i]? = some y) : eqP x y = true := by
  cases e : eqP x y with
  | true => rfl
  | false => rw [eqPs_false hx hy e] at h; cases h

set_option maxHeartbeats 4000000 in
theorem eqP_num (x y : GV) (h : (isNum x && isNum y) = true) : PCall Try.prog 97 [qV x, qV y] (.val (.bool (eqP x y))) := by
  obtain ⟨k, n, f, s, ks, l⟩ := x
  obtain ⟨k', n', f', s', ks', l'⟩ := y
  have c1 := number_p (.mk k n f s ks l)
  have c2 := number_p (.mk k' n' f' s' ks' l')
  have c3 := asFloat_p (.mk k n f s ks l)
  have c4 := asFloat_p (.mk k' n' f' s' ks' l')
  have hn := h
  simp only [Bool.and_eq_true] at hn
  rw [hn.1] at c1
  rw [hn.2] at c2
  have e : eqP (.mk k n f s ks l) (.mk k' n' f' s' ks' l') = if k = 2 ∧ k' = 2 then decide (n = n') else feq (asF (.mk k n f s ks l)) (asF (.mk k' n' f' s' ks' l')) := by
    unfold eqP; rw [if_pos h]
  rw [e]
  clear e h hn
  generalize asF (.mk k n f s ks l) = A at *
  generalize asF (.mk k' n' f' s' ks' l') = B at *
  refine pcall_of_run Try.func97 rfl Try.ntmps97 rfl (fun X => ?_)
  by_cases hk : k = 2
  · have q1 : decide (k = 2) = true := by simpa using hk
    by_cases hk' : k' = 2
    · have q2 : decide (k' = 2) = true := by simpa using hk'
      rw [if_pos ⟨hk, hk'⟩]
      repeat' (first
    | refine run_seq ?_
    | (refine k_pick rfl ?_; first | refine k_assignD rfl rfl ?_ | refine k_moveD rfl rfl ?_ | refine k_fieldAddrB rfl rfl rfl ?_ | refine k_loadW rfl rfl rfl (by first | rfl | (simp only [cellsD]; rfl)) ?_ | refine k_loadBD rfl rfl rfl (by first | rfl | (simp only [cellsD]; rfl)) ?_ | refine k_bin2B rfl rfl rfl rfl ?_ | refine k_pickT rfl rfl (by first | rfl | assumption) rfl ?_ | refine k_boxW rfl rfl rfl (by first | rfl | (simp only [cellsD]; rfl)) ?_ | refine k_call rfl (by kernel_rfl) rfl (by first | exact c1 | exact c2 | exact c3 | exact c4) ?_)
    | refine run_opsEnd ?_
    | refine run_region ?_
    | refine run_condT rfl (by first | rfl | assumption) ?_
    | (refine k_guardY rfl rfl (by first | rfl | assumption) ?_; first | refine k_fieldAddrB rfl rfl rfl ?_ | refine k_loadW rfl rfl rfl (by first | rfl | (simp only [cellsD]; rfl)) ?_ | refine k_loadBD rfl rfl rfl (by first | rfl | (simp only [cellsD]; rfl)) ?_ | refine k_bin2B rfl rfl rfl rfl ?_ | refine k_call rfl (by kernel_rfl) rfl (by first | exact c1 | exact c2 | exact c3 | exact c4) ?_)
    | refine run_retOk (resOk_tmp rfl rfl ?_)
    | fail)
      all_goals exact PLe.refl _
    · have q2 : decide (k' = 2) = false := by simpa using hk'
      rw [if_neg (fun h => hk' h.2)]
      repeat' (first
    | refine run_seq ?_
    | (refine k_pick rfl ?_; first | refine k_assignD rfl rfl ?_ | refine k_moveD rfl rfl ?_ | refine k_fieldAddrB rfl rfl rfl ?_ | refine k_loadW rfl rfl rfl (by first | rfl | (simp only [cellsD]; rfl)) ?_ | refine k_loadBD rfl rfl rfl (by first | rfl | (simp only [cellsD]; rfl)) ?_ | refine k_bin2B rfl rfl rfl rfl ?_ | refine k_pickT rfl rfl (by first | rfl | assumption) rfl ?_ | refine k_boxW rfl rfl rfl (by first | rfl | (simp only [cellsD]; rfl)) ?_ | refine k_call rfl (by kernel_rfl) rfl (by first | exact c1 | exact c2 | exact c3 | exact c4) ?_)
    | refine run_opsEnd ?_
    | refine run_region ?_
    | refine run_condT rfl (by first | rfl | assumption) ?_
    | refine run_condF rfl (by first | rfl | assumption) ?_
    | (refine k_guardY rfl rfl (by first | rfl | assumption) ?_; first | refine k_fieldAddrB rfl rfl rfl ?_ | refine k_loadW rfl rfl rfl (by first | rfl | (simp only [cellsD]; rfl)) ?_ | refine k_loadBD rfl rfl rfl (by first | rfl | (simp only [cellsD]; rfl)) ?_ | refine k_bin2B rfl rfl rfl rfl ?_ | refine k_call rfl (by kernel_rfl) rfl (by first | exact c1 | exact c2 | exact c3 | exact c4) ?_)
    | refine run_skip ?_
    | refine run_retOk (resOk_tmp rfl rfl ?_)
    | refine run_drawC (by kernel_rfl) ?_
    | refine c_nil (And.intro (by kernel_rfl) ?_)
    | refine c_pick (d_assignD rfl rfl) ?_
    | refine c_pick (d_loadW rfl rfl rfl (by first | rfl | (simp only [cellsD]; rfl))) ?_
    | refine c_pick (d_call rfl (by kernel_rfl) rfl (by first | exact c1 | exact c2 | exact c3 | exact c4)) ?_
    | refine c_pick (d_fltC rfl rfl rfl rfl) ?_
    | fail)
      all_goals exact PLe.refl _
  · have q1 : decide (k = 2) = false := by simpa using hk
    rw [if_neg (fun h => hk h.1)]
    repeat' (first
    | refine run_seq ?_
    | (refine k_pick rfl ?_; first | refine k_assignD rfl rfl ?_ | refine k_moveD rfl rfl ?_ | refine k_fieldAddrB rfl rfl rfl ?_ | refine k_loadW rfl rfl rfl (by first | rfl | (simp only [cellsD]; rfl)) ?_ | refine k_loadBD rfl rfl rfl (by first | rfl | (simp only [cellsD]; rfl)) ?_ | refine k_bin2B rfl rfl rfl rfl ?_ | refine k_pickT rfl rfl (by first | rfl | assumption) rfl ?_ | refine k_pickF rfl rfl (by first | rfl | assumption) rfl ?_ | refine k_boxW rfl rfl rfl (by first | rfl | (simp only [cellsD]; rfl)) ?_ | refine k_call rfl (by kernel_rfl) rfl (by first | exact c1 | exact c2 | exact c3 | exact c4) ?_)
    | refine run_opsEnd ?_
    | refine run_region ?_
    | refine run_condT rfl (by first | rfl | assumption) ?_
    | refine run_condF rfl (by first | rfl | assumption) ?_
    | (refine k_guardY rfl rfl (by first | rfl | assumption) ?_; first | refine k_loadW rfl rfl rfl (by first | rfl | (simp only [cellsD]; rfl)) ?_ | refine k_call rfl (by kernel_rfl) rfl (by first | exact c1 | exact c2 | exact c3 | exact c4) ?_)
    | refine k_guardNT rfl rfl (by first | rfl | assumption) rfl ?_
    | refine run_skip ?_
    | refine run_retOk (resOk_tmp rfl rfl ?_)
    | refine run_drawC (by kernel_rfl) ?_
    | refine c_nil (And.intro (by kernel_rfl) ?_)
    | refine c_pick (d_assignD rfl rfl) ?_
    | refine c_pick (d_loadW rfl rfl rfl (by first | rfl | (simp only [cellsD]; rfl))) ?_
    | refine c_pick (d_call rfl (by kernel_rfl) rfl (by first | exact c1 | exact c2 | exact c3 | exact c4)) ?_
    | refine c_pick (d_fltC rfl rfl rfl rfl) ?_
    | fail)
    all_goals exact PLe.refl _
set_option maxHeartbeats 8000000 in
theorem eqP_oth (x y : GV) (h : (isNum x && isNum y) = false) (ih : ∀ a ∈ x.l, ∀ b ∈ y.l, PCall Try.prog 97 [qV a, qV b] (.val (.bool (eqP a b)))) : PCall Try.prog 97 [qV x, qV y] (.val (.bool (eqP x y))) := by
  obtain ⟨k, n, f, s, ks, l⟩ := x
  obtain ⟨k', n', f', s', ks', l'⟩ := y
  refine pcall_fits fun hfit => ?_
  have b1 := (Fits.aggAt (hfit (qV (.mk k n f s ks l)) (by simp)) 4 (d := .sl 1 16 (pdS ks)) rfl).sl.2.1
  have b2 := (Fits.aggAt (hfit (qV (.mk k n f s ks l)) (by simp)) 5 (d := .sl 6 88 (pdVs l)) rfl).sl.2.1
  rw [pdS_len] at b1
  rw [pdVs_len] at b2
  clear hfit
  have c1 := number_p (.mk k n f s ks l)
  have c2 := number_p (.mk k' n' f' s' ks' l')
  have e : eqP (.mk k n f s ks l) (.mk k' n' f' s' ks' l') = (decide (k = k') && (decide (n = n') && (decide (s = s') && (decide (ks = ks') && eqPs l l')))) := by
    unfold eqP; rw [if_neg (by rw [h]; simp)]
  rw [e]
  clear e
  have ih : ∀ a ∈ l, ∀ b ∈ l', PCall Try.prog 97 [qV a, qV b] (.val (.bool (eqP a b))) := ih
  generalize isNum (.mk k n f s ks l) = p1 at *
  generalize isNum (.mk k' n' f' s' ks' l') = p2 at *
  have hlk := pdS_len ks
  have hlk' := pdS_len ks'
  have hll := pdVs_len l
  have hll' := pdVs_len l'
  refine pcall_of_run Try.func97 rfl Try.ntmps97 rfl (fun X => ?_)
  by_cases e1 : k = k'
  rotate_left
  · have q1 : decide (k ≠ k') = true := by simpa using e1
    rw [show decide (k = k') = false by simpa using e1, Bool.false_and]
    cases p1 <;> cases p2 <;> first | cases h | skip
    all_goals
      repeat' (first
    | refine run_seq ?_
    | (refine k_pick rfl ?_; first | refine k_assignD rfl rfl ?_ | refine k_moveD rfl rfl ?_ | refine k_fieldAddrB rfl rfl rfl ?_ | refine k_loadW rfl rfl rfl (by first | rfl | (simp only [cellsD]; rfl)) ?_ | refine k_loadBD rfl rfl rfl (by first | rfl | (simp only [cellsD]; rfl)) ?_ | refine k_bin2B rfl rfl rfl rfl ?_ | refine k_pickT rfl rfl (by first | rfl | assumption) rfl ?_ | refine k_pickF rfl rfl (by first | rfl | assumption) rfl ?_ | refine k_boxW rfl rfl rfl (by first | rfl | (simp only [cellsD]; rfl)) ?_ | refine k_call rfl (by kernel_rfl) rfl (by first | exact c1 | exact c2) ?_)
    | refine run_opsEnd ?_
    | refine run_region ?_
    | refine run_condT rfl (by first | rfl | assumption) ?_
    | refine run_condF rfl (by first | rfl | assumption) ?_
    | (refine k_guardY rfl rfl (by first | rfl | assumption) ?_; first | refine k_loadW rfl rfl rfl (by first | rfl | (simp only [cellsD]; rfl)) ?_ | refine k_call rfl (by kernel_rfl) rfl (by first | exact c1 | exact c2) ?_)
    | refine k_guardNT rfl rfl (by first | rfl | assumption) rfl ?_
    | refine k_guardNF rfl rfl (by first | rfl | assumption) rfl ?_
    | refine run_skip ?_
    | refine run_retOk (resOk_tmp rfl rfl ?_)
    | fail)
    all_goals exact PLe.refl _
  have q1 : decide (k ≠ k') = false := by simpa using e1
  rw [show decide (k = k') = true by simpa using e1, Bool.true_and]
  by_cases e2 : n = n'
  rotate_left
  · have q2 : decide (n ≠ n') = true := by simpa using e2
    rw [show decide (n = n') = false by simpa using e2, Bool.false_and]
    cases p1 <;> cases p2 <;> first | cases h | skip
    all_goals
      repeat' (first
    | refine run_seq ?_
    | (refine k_pick rfl ?_; first | refine k_assignD rfl rfl ?_ | refine k_moveD rfl rfl ?_ | refine k_fieldAddrB rfl rfl rfl ?_ | refine k_loadW rfl rfl rfl (by first | rfl | (simp only [cellsD]; rfl)) ?_ | refine k_loadBD rfl rfl rfl (by first | rfl | (simp only [cellsD]; rfl)) ?_ | refine k_bin2B rfl rfl rfl rfl ?_ | refine k_pickT rfl rfl (by first | rfl | assumption) rfl ?_ | refine k_pickF rfl rfl (by first | rfl | assumption) rfl ?_ | refine k_boxW rfl rfl rfl (by first | rfl | (simp only [cellsD]; rfl)) ?_ | refine k_call rfl (by kernel_rfl) rfl (by first | exact c1 | exact c2) ?_)
    | refine run_opsEnd ?_
    | refine run_region ?_
    | refine run_condT rfl (by first | rfl | assumption) ?_
    | refine run_condF rfl (by first | rfl | assumption) ?_
    | (refine k_guardY rfl rfl (by first | rfl | assumption) ?_; first | refine k_fieldAddrB rfl rfl rfl ?_ | refine k_loadW rfl rfl rfl (by first | rfl | (simp only [cellsD]; rfl)) ?_ | refine k_loadBD rfl rfl rfl (by first | rfl | (simp only [cellsD]; rfl)) ?_ | refine k_bin2B rfl rfl rfl rfl ?_ | refine k_call rfl (by kernel_rfl) rfl (by first | exact c1 | exact c2) ?_)
    | refine k_guardNT rfl rfl (by first | rfl | assumption) rfl ?_
    | refine k_guardNF rfl rfl (by first | rfl | assumption) rfl ?_
    | refine run_skip ?_
    | refine run_retOk (resOk_tmp rfl rfl ?_)
    | fail)
    all_goals exact PLe.refl _
  have q2 : decide (n ≠ n') = false := by simpa using e2
  rw [show decide (n = n') = true by simpa using e2, Bool.true_and]
  by_cases e3 : s = s'
  rotate_left
  · have q3 : decide (s ≠ s') = true := by simpa using e3
    rw [show decide (s = s') = false by simpa using e3, Bool.false_and]
    cases p1 <;> cases p2 <;> first | cases h | skip
    all_goals
      repeat' (first
    | refine run_seq ?_
    | (refine k_pick rfl ?_; first | refine k_assignD rfl rfl ?_ | refine k_moveD rfl rfl ?_ | refine k_fieldAddrB rfl rfl rfl ?_ | refine k_loadW rfl rfl rfl (by first | rfl | (simp only [cellsD]; rfl)) ?_ | refine k_loadBD rfl rfl rfl (by first | rfl | (simp only [cellsD]; rfl)) ?_ | refine k_bin2B rfl rfl rfl rfl ?_ | refine k_pickT rfl rfl (by first | rfl | assumption) rfl ?_ | refine k_pickF rfl rfl (by first | rfl | assumption) rfl ?_ | refine k_boxW rfl rfl rfl (by first | rfl | (simp only [cellsD]; rfl)) ?_ | refine k_call rfl (by kernel_rfl) rfl (by first | exact c1 | exact c2) ?_)
    | refine run_opsEnd ?_
    | refine run_region ?_
    | refine run_condT rfl (by first | rfl | assumption) ?_
    | refine run_condF rfl (by first | rfl | assumption) ?_
    | (refine k_guardY rfl rfl (by first | rfl | assumption) ?_; first | refine k_fieldAddrB rfl rfl rfl ?_ | refine k_loadW rfl rfl rfl (by first | rfl | (simp only [cellsD]; rfl)) ?_ | refine k_loadBD rfl rfl rfl (by first | rfl | (simp only [cellsD]; rfl)) ?_ | refine k_bin2B rfl rfl rfl rfl ?_ | refine k_call rfl (by kernel_rfl) rfl (by first | exact c1 | exact c2) ?_)
    | refine k_guardNT rfl rfl (by first | rfl | assumption) rfl ?_
    | refine run_skip ?_
    | refine run_retOk (resOk_tmp rfl rfl ?_)
    | fail)
    all_goals exact PLe.refl _
  have q3 : decide (s ≠ s') = false := by simpa using e3
  rw [show decide (s = s') = true by simpa using e3, Bool.true_and]
  by_cases e4 : ks.length = ks'.length
  rotate_left
  · have q4 : decide ((((pdS ks).length : Nat) : Int) ≠ (((pdS ks').length : Nat) : Int)) = true := by rw [hlk, hlk']; simp; omega
    rw [show decide (ks = ks') = false by
      simp only [decide_eq_false_iff_not]; exact fun h => e4 (by rw [h]), Bool.false_and]
    cases p1 <;> cases p2 <;> first | cases h | skip
    all_goals
      repeat' (first
    | refine run_seq ?_
    | (refine k_pick rfl ?_; first | refine k_assignD rfl rfl ?_ | refine k_moveD rfl rfl ?_ | refine k_fieldAddrB rfl rfl rfl ?_ | refine k_loadW rfl rfl rfl (by first | rfl | (simp only [cellsD]; rfl)) ?_ | refine k_loadBD rfl rfl rfl (by first | rfl | (simp only [cellsD]; rfl)) ?_ | refine k_bin2B rfl rfl rfl rfl ?_ | refine k_pickT rfl rfl (by first | rfl | assumption) rfl ?_ | refine k_pickF rfl rfl (by first | rfl | assumption) rfl ?_ | refine k_boxW rfl rfl rfl (by first | rfl | (simp only [cellsD]; rfl)) ?_ | refine k_call rfl (by kernel_rfl) rfl (by first | exact c1 | exact c2) ?_ | refine k_lenD rfl rfl ?_)
    | refine run_opsEnd ?_
    | refine run_region ?_
    | refine run_condT rfl (by first | rfl | assumption) ?_
    | refine run_condF rfl (by first | rfl | assumption) ?_
    | (refine k_guardY rfl rfl (by first | rfl | assumption) ?_; first | refine k_fieldAddrB rfl rfl rfl ?_ | refine k_loadW rfl rfl rfl (by first | rfl | (simp only [cellsD]; rfl)) ?_ | refine k_loadBD rfl rfl rfl (by first | rfl | (simp only [cellsD]; rfl)) ?_ | refine k_bin2B rfl rfl rfl rfl ?_ | refine k_call rfl (by kernel_rfl) rfl (by first | exact c1 | exact c2) ?_)
    | refine k_guardNT rfl rfl (by first | rfl | assumption) rfl ?_
    | refine k_guardNF rfl rfl (by first | rfl | assumption) rfl ?_
    | refine run_skip ?_
    | refine run_retOk (resOk_tmp rfl rfl ?_)
    | fail)
    all_goals exact PLe.refl _
  have q4 : decide ((((pdS ks).length : Nat) : Int) ≠ (((pdS ks').length : Nat) : Int)) = false := by rw [hlk, hlk']; simp; omega
  by_cases e5 : l.length = l'.length
  rotate_left
  · have q5 : decide ((((pdVs l).length : Nat) : Int) ≠ (((pdVs l').length : Nat) : Int)) = true := by rw [hll, hll']; simp; omega
    rw [show eqPs l l' = false by
      cases h : eqPs l l' with
      | false => rfl
      | true => exact absurd (eqPs_len h) e5, Bool.and_false]
    cases p1 <;> cases p2 <;> first | cases h | skip
    all_goals
      repeat' (first
    | refine run_seq ?_
    | (refine k_pick rfl ?_; first | refine k_assignD rfl rfl ?_ | refine k_moveD rfl rfl ?_ | refine k_fieldAddrB rfl rfl rfl ?_ | refine k_loadW rfl rfl rfl (by first | rfl | (simp only [cellsD]; rfl)) ?_ | refine k_loadBD rfl rfl rfl (by first | rfl | (simp only [cellsD]; rfl)) ?_ | refine k_bin2B rfl rfl rfl rfl ?_ | refine k_pickT rfl rfl (by first | rfl | assumption) rfl ?_ | refine k_pickF rfl rfl (by first | rfl | assumption) rfl ?_ | refine k_boxW rfl rfl rfl (by first | rfl | (simp only [cellsD]; rfl)) ?_ | refine k_call rfl (by kernel_rfl) rfl (by first | exact c1 | exact c2) ?_ | refine k_lenD rfl rfl ?_)
    | refine run_opsEnd ?_
    | refine run_region ?_
    | refine run_condT rfl (by first | rfl | assumption) ?_
    | refine run_condF rfl (by first | rfl | assumption) ?_
    | (refine k_guardY rfl rfl (by first | rfl | assumption) ?_; first | refine k_fieldAddrB rfl rfl rfl ?_ | refine k_loadW rfl rfl rfl (by first | rfl | (simp only [cellsD]; rfl)) ?_ | refine k_loadBD rfl rfl rfl (by first | rfl | (simp only [cellsD]; rfl)) ?_ | refine k_bin2B rfl rfl rfl rfl ?_ | refine k_call rfl (by kernel_rfl) rfl (by first | exact c1 | exact c2) ?_ | refine k_lenD rfl rfl ?_)
    | refine k_guardNT rfl rfl (by first | rfl | assumption) rfl ?_
    | refine run_skip ?_
    | refine run_retOk (resOk_tmp rfl rfl ?_)
    | fail)
    all_goals exact PLe.refl _
  have q5 : decide ((((pdVs l).length : Nat) : Int) ≠ (((pdVs l').length : Nat) : Int)) = false := by rw [hll, hll']; simp; omega
  refine run_weaken (s' := startSta [qV (.mk k n f s ks l), qV (.mk k' n' f' s' ks' l')]) (fun _ _ h => h) ?_
  cases p1 <;> cases p2 <;> first | cases h | skip
  all_goals
    repeat' (first
    | refine run_seq ?_
    | (refine k_pick rfl ?_; first | refine k_assignD rfl rfl ?_ | refine k_moveD rfl rfl ?_ | refine k_fieldAddrB rfl rfl rfl ?_ | refine k_loadW rfl rfl rfl (by first | rfl | (simp only [cellsD]; rfl)) ?_ | refine k_loadBD rfl rfl rfl (by first | rfl | (simp only [cellsD]; rfl)) ?_ | refine k_bin2B rfl rfl rfl rfl ?_ | refine k_pickT rfl rfl (by first | rfl | assumption) rfl ?_ | refine k_pickF rfl rfl (by first | rfl | assumption) rfl ?_ | refine k_boxW rfl rfl rfl (by first | rfl | (simp only [cellsD]; rfl)) ?_ | refine k_call rfl (by kernel_rfl) rfl (by first | exact c1 | exact c2) ?_ | refine k_lenD rfl rfl ?_)
    | refine run_opsEnd ?_
    | refine run_region ?_
    | refine run_condF rfl (by first | rfl | assumption) ?_
    | (refine k_guardY rfl rfl (by first | rfl | assumption) ?_; first | refine k_fieldAddrB rfl rfl rfl ?_ | refine k_loadW rfl rfl rfl (by first | rfl | (simp only [cellsD]; rfl)) ?_ | refine k_loadBD rfl rfl rfl (by first | rfl | (simp only [cellsD]; rfl)) ?_ | refine k_bin2B rfl rfl rfl rfl ?_ | refine k_call rfl (by kernel_rfl) rfl (by first | exact c1 | exact c2) ?_ | refine k_lenD rfl rfl ?_)
    | refine k_guardNT rfl rfl (by first | rfl | assumption) rfl ?_
    | refine run_block ?_
    | refine run_skip ?_
    | fail)
    refine run_loopS (ι := { j : Nat // j ≤ ks.length ∧ ∀ i, i < j → ks[i]? = ks'[i]? })
      (fun j => [(2, .ptr 2 0), (3, .ptr 3 0), (68, .dat (.val (.int .i64 ((pdS ks).length : Nat)))), (69, .dat (.val (.int .i64 (j.1 : Nat))))])
      (fun j => [(2, .box 26 (cellsD (qV (.mk k n f s ks l)))), (3, .box 26 (cellsD (qV (.mk k' n' f' s' ks' l'))))]) (fun j => ks.length - j.1) ⟨0, Nat.zero_le _, fun i h => absurd h (Nat.not_lt_zero i)⟩ id ?_ ?_
    · (refine ⟨?_, ?_, by rfl⟩ <;> repeat' (first | exact trivial | exact ALe.ptr rfl | exact ALe.own rfl | exact ALe.elt rfl | exact BLe.boxD _ _ | exact BLe.row rfl | exact BLe.res | exact ALe.dat (PLe.refl _) | exact CLe.nil | refine And.intro ?_ ?_ | refine ALe.iface ?_ | refine ALe.clo ?_ | refine CLe.cons ?_ ?_ | refine BLe.box ?_ | refine BLe.row ?_ | exact ALe.any _ | refine ALe.dat (PLe.of_eq ?_)))
    rintro ⟨j, hj, hall⟩
    by_cases hlt : j < ks.length
    · have hc : decide ((j : Int) < (((pdS ks).length : Nat) : Int)) = true := by rw [hlk]; simpa using hlt
      obtain ⟨x, hx⟩ : ∃ x, ks[j]? = some x := ⟨_, List.getElem?_eq_getElem hlt⟩
      obtain ⟨y, hy⟩ : ∃ y, ks'[j]? = some y := ⟨_, List.getElem?_eq_getElem (e4 ▸ hlt)⟩
      have i1 : (pdS ks)[((j : Nat) : Int).toNat]? = some (.val (.string x)) := pdS_at hx
      have i2 : (pdS ks')[((j : Nat) : Int).toNat]? = some (.val (.string y)) := pdS_at hy
      by_cases exy : x = y
      · have q6 : decide (x ≠ y) = false := by simpa using exy
        repeat' (first
    | refine run_seq ?_
    | (refine k_pick rfl ?_; first | refine k_assignD rfl rfl ?_ | refine k_moveD rfl rfl ?_ | refine k_bin2B rfl rfl rfl rfl ?_ | refine k_ariI rfl rfl rfl rfl (by first | omega | (dsimp only; omega)) ?_)
    | refine run_opsEnd ?_
    | refine run_region ?_
    | refine run_condT rfl (by first | rfl | assumption) ?_
    | refine run_condF rfl (by first | rfl | assumption) ?_
    | refine run_block ?_
    | refine run_blkEnd ?_
    | refine run_skip ?_
    | refine run_drawC (by kernel_rfl) ?_
    | refine c_nil (And.intro (by kernel_rfl) ?_)
    | refine c_pick (d_indexAddrD rfl rfl rfl (by first | omega | (dsimp only; omega)) (by assumption)) ?_
    | refine c_pick (d_moveD rfl rfl) ?_
    | refine c_pick (d_fieldAddrB rfl rfl rfl) ?_
    | refine c_pick (d_loadBD rfl rfl rfl (by first | rfl | (simp only [cellsD]; rfl))) ?_
    | refine c_pick (d_bin2B rfl rfl rfl rfl) ?_
    | refine c_pick (d_loadD rfl rfl (by first | rfl | (simp only [cellsD]; rfl))) ?_
    | fail)
        refine run_again ?_
        refine ⟨⟨j + 1, by omega, fun i hi => ?_⟩, id, by simp only; omega, ?_⟩
        · by_cases e : i = j
          · subst e; rw [hx, hy, exy]
          · exact hall i (by omega)
        (refine ⟨?_, ?_, by rfl⟩ <;> repeat' (first | exact trivial | exact ALe.ptr rfl | exact ALe.own rfl | exact ALe.elt rfl | exact BLe.boxD _ _ | exact BLe.row rfl | exact BLe.res | exact ALe.dat (PLe.refl _) | exact CLe.nil | refine And.intro ?_ ?_ | refine ALe.iface ?_ | refine ALe.clo ?_ | refine CLe.cons ?_ ?_ | refine BLe.box ?_ | refine BLe.row ?_ | exact ALe.any _ | refine ALe.dat (PLe.of_eq ?_)))
      · have q6 : decide (x ≠ y) = true := by simpa using exy
        rw [show decide (ks = ks') = false by
          simp only [decide_eq_false_iff_not]
          intro h; rw [h] at hx; rw [hx] at hy; exact exy (Option.some.inj hy), Bool.false_and]
        repeat' (first
    | refine run_seq ?_
    | (refine k_pick rfl ?_; first | refine k_assignD rfl rfl ?_ | refine k_moveD rfl rfl ?_ | refine k_bin2B rfl rfl rfl rfl ?_)
    | refine run_opsEnd ?_
    | refine run_region ?_
    | refine run_condT rfl (by first | rfl | assumption) ?_
    | refine run_block ?_
    | refine run_skip ?_
    | refine run_retOk (resOk_tmp rfl rfl ?_)
    | refine run_drawC (by kernel_rfl) ?_
    | refine c_nil (And.intro (by kernel_rfl) ?_)
    | refine c_pick (d_indexAddrD rfl rfl rfl (by first | omega | (dsimp only; omega)) (by assumption)) ?_
    | refine c_pick (d_moveD rfl rfl) ?_
    | refine c_pick (d_fieldAddrB rfl rfl rfl) ?_
    | refine c_pick (d_loadBD rfl rfl rfl (by first | rfl | (simp only [cellsD]; rfl))) ?_
    | refine c_pick (d_bin2B rfl rfl rfl rfl) ?_
    | refine c_pick (d_loadD rfl rfl (by first | rfl | (simp only [cellsD]; rfl))) ?_
    | fail)
        all_goals exact PLe.refl _
    · have hc : decide ((j : Int) < (((pdS ks).length : Nat) : Int)) = false := by rw [hlk]; simpa using hlt
      have ek : ks = ks' := by
        apply List.ext_getElem? 
        intro i
        by_cases hi : i < ks.length
        · exact hall i (by omega)
        · rw [List.getElem?_eq_none (by omega), List.getElem?_eq_none (by omega)]
      rw [show decide (ks = ks') = true by simpa using ek, Bool.true_and]
      repeat' (first
    | refine run_seq ?_
    | (refine k_pick rfl ?_; first | refine k_moveD rfl rfl ?_ | refine k_fieldAddrB rfl rfl rfl ?_ | refine k_loadBD rfl rfl rfl (by first | rfl | (simp only [cellsD]; rfl)) ?_ | refine k_bin2B rfl rfl rfl rfl ?_ | refine k_lenD rfl rfl ?_)
    | refine run_opsEnd ?_
    | refine run_region ?_
    | refine run_condF rfl (by first | rfl | assumption) ?_
    | refine run_block ?_
    | refine run_exit rfl ?_
    | fail)
      refine run_loopS (ι := { j : Nat // j ≤ l.length ∧ ∀ i x y, i < j → l[i]? = some x → l'[i]? = some y → eqP x y = true })
        (fun j => [(2, .ptr 2 0), (3, .ptr 3 0), (86, .dat (.val (.int .i64 ((pdVs l).length : Nat)))), (87, .dat (.val (.int .i64 (j.1 : Nat))))])
        (fun j => [(2, .box 26 (cellsD (qV (.mk k n f s ks l)))), (3, .box 26 (cellsD (qV (.mk k' n' f' s' ks' l'))))]) (fun j => l.length - j.1) ⟨0, Nat.zero_le _, fun i _ _ h => absurd h (Nat.not_lt_zero i)⟩ id ?_ ?_
      · (refine ⟨?_, ?_, by rfl⟩ <;> repeat' (first | exact trivial | exact ALe.ptr rfl | exact ALe.own rfl | exact ALe.elt rfl | exact BLe.boxD _ _ | exact BLe.row rfl | exact BLe.res | exact ALe.dat (PLe.refl _) | exact CLe.nil | refine And.intro ?_ ?_ | refine ALe.iface ?_ | refine ALe.clo ?_ | refine CLe.cons ?_ ?_ | refine BLe.box ?_ | refine BLe.row ?_ | exact ALe.any _ | refine ALe.dat (PLe.of_eq ?_)))
      clear hall hj hc hlt
      rintro ⟨j, hj, hall⟩
      by_cases hlt : j < l.length
      · have hc : decide ((j : Int) < (((pdVs l).length : Nat) : Int)) = true := by rw [hll]; simpa using hlt
        obtain ⟨x, hx⟩ : ∃ x, l[j]? = some x := ⟨_, List.getElem?_eq_getElem hlt⟩
        obtain ⟨y, hy⟩ : ∃ y, l'[j]? = some y := ⟨_, List.getElem?_eq_getElem (e5 ▸ hlt)⟩
        have i1 : (pdVs l)[((j : Nat) : Int).toNat]? = some (qV x) := by rw [show qV x = pdV x from (pdV_eq x).symm]; exact pdVs_at hx
        have i2 : (pdVs l')[((j : Nat) : Int).toNat]? = some (qV y) := by rw [show qV y = pdV y from (pdV_eq y).symm]; exact pdVs_at hy
        have hC := ih x (List.mem_of_getElem? hx) y (List.mem_of_getElem? hy)
        cases hr : eqP x y with
        | true =>
          rw [hr] at hC
          repeat' (first
    | refine run_seq ?_
    | (refine k_pick rfl ?_; first | refine k_assignD rfl rfl ?_ | refine k_moveD rfl rfl ?_ | refine k_bin2B rfl rfl rfl rfl ?_ | refine k_ariI rfl rfl rfl rfl (by first | omega | (dsimp only; omega)) ?_)
    | refine run_opsEnd ?_
    | refine run_region ?_
    | refine run_condT rfl (by first | rfl | assumption) ?_
    | refine run_condF rfl (by first | rfl | assumption) ?_
    | refine run_block ?_
    | refine run_blkEnd ?_
    | refine run_skip ?_
    | refine run_drawC (by kernel_rfl) ?_
    | refine c_nil (And.intro (by kernel_rfl) ?_)
    | refine c_pick (d_indexAddrD rfl rfl rfl (by first | omega | (dsimp only; omega)) (by assumption)) ?_
    | refine c_pick (d_moveD rfl rfl) ?_
    | refine c_pick (d_fieldAddrB rfl rfl rfl) ?_
    | refine c_pick (d_loadBD rfl rfl rfl (by first | rfl | (simp only [cellsD]; rfl))) ?_
    | refine c_pick (d_call rfl (by kernel_rfl) rfl (by first | exact hC)) ?_
    | refine c_pick (d_not rfl rfl) ?_
    | refine c_pick (d_loadD rfl rfl (by first | rfl | (simp only [cellsD]; rfl))) ?_
    | fail)
          refine run_again ?_
          refine ⟨⟨j + 1, by omega, fun i x' y' hi hx' hy' => ?_⟩, id, by simp only; omega, ?_⟩
          · by_cases e : i = j
            · subst e
              rw [hx] at hx'; rw [hy] at hy'
              cases hx'; cases hy'
              exact hr
            · exact hall i x' y' (by omega) hx' hy'
          (refine ⟨?_, ?_, by rfl⟩ <;> repeat' (first | exact trivial | exact ALe.ptr rfl | exact ALe.own rfl | exact ALe.elt rfl | exact BLe.boxD _ _ | exact BLe.row rfl | exact BLe.res | exact ALe.dat (PLe.refl _) | exact CLe.nil | refine And.intro ?_ ?_ | refine ALe.iface ?_ | refine ALe.clo ?_ | refine CLe.cons ?_ ?_ | refine BLe.box ?_ | refine BLe.row ?_ | exact ALe.any _ | refine ALe.dat (PLe.of_eq ?_)))
        | false =>
          rw [hr] at hC
          rw [eqPs_false hx hy hr]
          repeat' (first
    | refine run_seq ?_
    | (refine k_pick rfl ?_; first | refine k_assignD rfl rfl ?_ | refine k_moveD rfl rfl ?_ | refine k_bin2B rfl rfl rfl rfl ?_)
    | refine run_opsEnd ?_
    | refine run_region ?_
    | refine run_condT rfl (by first | rfl | assumption) ?_
    | refine run_block ?_
    | refine run_skip ?_
    | refine run_retOk (resOk_tmp rfl rfl ?_)
    | refine run_drawC (by kernel_rfl) ?_
    | refine c_nil (And.intro (by kernel_rfl) ?_)
    | refine c_pick (d_indexAddrD rfl rfl rfl (by first | omega | (dsimp only; omega)) (by assumption)) ?_
    | refine c_pick (d_moveD rfl rfl) ?_
    | refine c_pick (d_fieldAddrB rfl rfl rfl) ?_
    | refine c_pick (d_loadBD rfl rfl rfl (by first | rfl | (simp only [cellsD]; rfl))) ?_
    | refine c_pick (d_call rfl (by kernel_rfl) rfl (by first | exact hC)) ?_
    | refine c_pick (d_not rfl rfl) ?_
    | refine c_pick (d_loadD rfl rfl (by first | rfl | (simp only [cellsD]; rfl))) ?_
    | fail)
          all_goals exact PLe.refl _
      · have hc : decide ((j : Int) < (((pdVs l).length : Nat) : Int)) = false := by rw [hll]; simpa using hlt
        rw [eqPs_true e5 (fun i x y hx hy => hall i x y (by have := (List.getElem?_eq_some_iff.1 hx).1; omega) hx hy)]
        repeat' (first
    | refine run_seq ?_
    | (refine k_pick rfl ?_; first | refine k_assignD rfl rfl ?_ | refine k_bin2B rfl rfl rfl rfl ?_)
    | refine run_opsEnd ?_
    | refine run_region ?_
    | refine run_condF rfl (by first | rfl | assumption) ?_
    | refine run_exit rfl ?_
    | refine run_retOk (resOk_tmp rfl rfl ?_)
    | fail)
        all_goals exact PLe.refl _
theorem eqP_p : ∀ (x y : GV), PCall Try.prog 97 [qV x, qV y] (.val (.bool (eqP x y)))
  | .mk k n f s ks l, y => by
    cases h : isNum (.mk k n f s ks l) && isNum y with
    | true => exact eqP_num _ _ h
    | false => exact eqP_oth _ _ h (fun a ha b _ => eqP_p a b)
termination_by x => SizeOf.sizeOf x
decreasing_by
  simp_wf
  have ha : a ∈ l := ha
  have := List.sizeOf_lt_of_mem ha
  omega
theorem eqSpec_p (x y : GV) : PCall Try.prog 48 [qV x, qV y] (.val (.bool (eqP (cleanV x) (cleanV y)))) := by
  have c1 := clean_p x
  have c2 := clean_p y
  have c3 := eqP_p (cleanV x) (cleanV y)
  refine pcall_of_run Try.func48 rfl Try.ntmps48 rfl (fun X => ?_)
  repeat' (first
    | refine run_seq ?_
    | (refine k_pick rfl ?_; first | refine k_assignD rfl rfl ?_ | refine k_boxW rfl rfl rfl (by first | rfl | (simp only [cellsD]; rfl)) ?_)
    | refine run_opsEnd ?_
    | refine run_region ?_
    | refine run_retOk (resOk_tmp rfl rfl ?_)
    | refine run_drawC (by kernel_rfl) ?_
    | refine c_nil (And.intro (by kernel_rfl) ?_)
    | refine c_pick (d_assignD rfl rfl) ?_
    | refine c_pick (d_loadW rfl rfl rfl (by first | rfl | (simp only [cellsD]; rfl))) ?_
    | refine c_pick (d_call rfl (by kernel_rfl) rfl (by first | exact c1 | exact c2 | exact c3)) ?_
    | fail)
  all_goals exact PLe.refl _
end Go.Proofs.Ytlghpcokbppkfaa
