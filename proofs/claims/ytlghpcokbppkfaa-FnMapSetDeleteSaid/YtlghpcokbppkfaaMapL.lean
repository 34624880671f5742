import Derived.Test.YtlghpcokbppkfaaMapS
set_option linter.unusedVariables false
/- laws.FnMapSetDelete. -/
namespace Go.Proofs.Ytlghpcokbppkfaa
open Go.RowKit
set_option linter.unusedSimpArgs false

/-! ### The plain law -/
theorem getA_del {k k' : ByteArray} : ∀ {m : List (ByteArray × JV)}, (m.map (·.1)).Nodup → getA (delA k m) k' = if k = k' then none else getA m k'
  | [], _ => by unfold delA; simp [getA]
  | x :: r, h => by
    simp only [List.map_cons, List.nodup_cons] at h
    unfold delA
    by_cases e : x.1 = k
    · rw [if_pos e]
      simp only [getA]
      by_cases e' : k = k'
      · rw [if_pos e']
        exact getA_none fun y hy hyk => h.1 (by rw [e, e', ← hyk]; exact List.mem_map_of_mem (f := (·.1)) hy)
      · rw [if_neg e', if_neg (fun q => e' (by rw [← e, q]))]
    · rw [if_neg e]
      simp only [getA]
      rw [getA_del h.2]
      by_cases e' : k = k'
      · rw [if_pos e', if_neg (fun q => e (by rw [q, e'])), if_pos e']
      · rw [if_neg e', if_neg e']
theorem del_nodup {k : ByteArray} {m : List (ByteArray × JV)} (h : (m.map (·.1)).Nodup) : ((delA k m).map (·.1)).Nodup := ((delA_sub (k := k) (m := m)).map _).nodup h
/-- All values are trees of values. -/
def PlM (m : List (ByteArray × JV)) : Prop := ∀ y ∈ m, ∃ z, y.2 = plainJ z
theorem PlM_put {m : List (ByteArray × JV)} {k : ByteArray} {z : GV} (h : PlM m) : PlM (putA m k (plainJ z)) := by
  induction m with
  | nil => intro y hy; simp [putA] at hy; subst hy; exact ⟨z, rfl⟩
  | cons x r ih =>
    intro y hy
    simp only [putA] at hy
    split at hy
    · rcases List.mem_cons.1 hy with rfl | hy
      · exact ⟨z, rfl⟩
      · exact h y (by simp [hy])
    · rcases List.mem_cons.1 hy with rfl | hy
      · exact h _ (by simp)
      · exact ih (fun y hy => h y (by simp [hy])) y hy
theorem PlM_plainM : ∀ (ks : List ByteArray) (l : List GV) (acc : List (ByteArray × JV)), PlM acc → PlM (plainM ks l acc)
  | [], l, acc, h => by simpa only [plainM] using h
  | _ :: _, [], acc, h => by simpa only [plainM] using h
  | k :: ks, x :: l, acc, h => by simp only [plainM]; exact PlM_plainM ks l _ (PlM_put h)
theorem PlM_del {k : ByteArray} {m : List (ByteArray × JV)} (h : PlM m) : PlM (delA k m) := fun y hy => h y ((delA_sub (k := k) (m := m)).subset hy)
theorem plainM_nd (ks : List ByteArray) (l : List GV) : ((plainM ks l []).map (·.1)).Nodup := (unM_plainM ks l [] (fun y _ => un_plain y) (by simp)).2
theorem unM_ext {a b : List (ByteArray × JV)} (ha : (a.map (·.1)).Nodup) (hb : (b.map (·.1)).Nodup) (h : ∀ k, (getA a k).map unJ = (getA b k).map unJ) : unM a gMap = unM b gMap :=
  plain_ext (unM_plain _ _ gMap_plain) (unM_plain _ _ gMap_plain) fun k => by rw [getF_unM _ _ gMap_plain ha, getF_unM _ _ gMap_plain hb, h k]
/-- A map's plain value, made into a tree again. -/
theorem again {m : List (ByteArray × JV)} (hd : (m.map (·.1)).Nodup) (hp : PlM m) : (∀ k, (getA (plainM (unM m gMap).keys (unM m gMap).l []) k).map unJ = (getA m k).map unJ) ∧ (unM m gMap).l.length ≤ m.length ∧ (unM m gMap).keys.length = (unM m gMap).l.length := by
  obtain ⟨ks, l, e, hi, hl, hk, hg⟩ := unM_form hd
  rw [e]
  have hlen : ks.length ≤ m.length := by
    have := nodup_len (incr_nd hi) (l := m.map (·.1)) (fun x hx => (hk x).1 hx)
    simpa using this
  refine ⟨fun k => ?_, by show l.length ≤ _; omega, hl⟩
  show (getA (plainM ks l []) k).map unJ = _
  have h1 := getF_unM (plainM ks l []) gMap gMap_plain (plainM_nd ks l) k
  rw [getF_gMap, Option.or_none] at h1
  rw [← h1, (unM_plainM ks l [] (fun y _ => un_plain y) (by simp)).1]
  rw [show unM [] gMap = gMap by simp only [unM], getF_cleanM ks l gMap gMap_plain (incr_nd hi), getF_gMap, Option.or_none]
  have h2 := getF_unM m gMap gMap_plain hd k
  rw [getF_gMap, Option.or_none, e] at h2
  have h2 : getA (ks.zip l) k = (getA m k).map unJ := h2
  rw [h2]
  cases hm : getA m k with
  | none => rfl
  | some j =>
    obtain ⟨z, hz⟩ := hp _ (getA_mem hm)
    have hz : j = plainJ z := hz
    simp only [Option.map_some]
    rw [hz, un_plain, cleanV_idem]

/-! ### The sizes, tested -/
theorem fits5_no (x : GV) (h : ¬ (x.l.length ≤ 2147483647 ∧ x.keys.length ≤ 2147483647)) : PCall Try.prog 15 [qV x] (.val (.bool false)) := by
  have c := fits2_p x.keys
  have hl := pdVs_len x.l
  cases h1 : decide ((2147483647 : Int) < (x.s.size : Int)) with
  | true =>
    refine pcall_of_run Try.func15 rfl Try.ntmps15 rfl (fun X => ?_)
    repeat' (first
    | refine run_seq ?_
    | (refine k_pick rfl ?_; first | refine k_assignD rfl rfl ?_ | refine k_fieldAddrB rfl rfl rfl ?_ | refine k_loadBD rfl rfl rfl (by first | rfl | (simp only [cellsD]; rfl)) ?_ | refine k_bin2B rfl rfl rfl rfl ?_ | refine k_boxW rfl rfl rfl (by first | rfl | (simp only [cellsD]; rfl)) ?_ | refine k_lenS rfl rfl (by kernel_rfl) ?_)
    | refine run_opsEnd ?_
    | refine run_region ?_
    | refine run_condT rfl (by first | rfl | assumption) ?_
    | refine run_retOk (resOk_tmp rfl rfl ?_)
    | fail)
    all_goals exact PLe.refl _
  | false =>
    cases h2 : fitS x.keys with
    | false =>
      rw [h2] at c
      refine pcall_of_run Try.func15 rfl Try.ntmps15 rfl (fun X => ?_)
      repeat' (first
    | refine run_seq ?_
    | (refine k_pick rfl ?_; first | refine k_assignD rfl rfl ?_ | refine k_fieldAddrB rfl rfl rfl ?_ | refine k_loadBD rfl rfl rfl (by first | rfl | (simp only [cellsD]; rfl)) ?_ | refine k_bin2B rfl rfl rfl rfl ?_ | refine k_boxW rfl rfl rfl (by first | rfl | (simp only [cellsD]; rfl)) ?_ | refine k_call rfl (by kernel_rfl) rfl (by first | exact c) ?_ | refine k_lenS rfl rfl (by kernel_rfl) ?_ | refine k_not rfl rfl ?_)
    | refine run_opsEnd ?_
    | refine run_region ?_
    | refine run_condT rfl (by first | rfl | assumption) ?_
    | refine run_condF rfl (by first | rfl | assumption) ?_
    | refine run_skip ?_
    | refine run_retOk (resOk_tmp rfl rfl ?_)
    | fail)
      all_goals exact PLe.refl _
    | true =>
      have h3 : decide ((2147483647 : Int) < (((pdVs x.l).length : Nat) : Int)) = true := by
        rw [hl]
        unfold fitS at h2
        simp only [Bool.and_eq_true, Bool.not_eq_true', decide_eq_false_iff_not] at h2
        simp only [decide_eq_true_eq]
        omega
      rw [h2] at c
      refine pcall_of_run Try.func15 rfl Try.ntmps15 rfl (fun X => ?_)
      repeat' (first
    | refine run_seq ?_
    | (refine k_pick rfl ?_; first | refine k_assignD rfl rfl ?_ | refine k_fieldAddrB rfl rfl rfl ?_ | refine k_loadBD rfl rfl rfl (by first | rfl | (simp only [cellsD]; rfl)) ?_ | refine k_bin2B rfl rfl rfl rfl ?_ | refine k_boxW rfl rfl rfl (by first | rfl | (simp only [cellsD]; rfl)) ?_ | refine k_call rfl (by kernel_rfl) rfl (by first | exact c) ?_ | refine k_lenS rfl rfl (by kernel_rfl) ?_ | refine k_lenD rfl rfl ?_ | refine k_not rfl rfl ?_)
    | refine run_opsEnd ?_
    | refine run_region ?_
    | refine run_condT rfl (by first | rfl | assumption) ?_
    | refine run_condF rfl (by first | rfl | assumption) ?_
    | refine run_skip ?_
    | refine run_retOk (resOk_tmp rfl rfl ?_)
    | fail)
      all_goals exact PLe.refl _
theorem identQ_p (x y : GV) : PCall Try.prog 69 [qV x, qV y] (.val (.bool (sameG x y))) := by
  have := pcall_V2s (P := Try.prog) (f := 69) (x := x) (y := y) (u := .bool (sameG x y)) trivial (fun w v v' h h' => (same_all x).use y w v v' h h')
  rw [pdV_eq, pdV_eq] at this
  exact this
theorem sameQ_p (x : GV) : PCall Try.prog 40 [qV x, qV x] (.val (.bool true)) := by
  have c1 := pcall_V1V (P := Try.prog) (f := 17) (x := x) (y := cleanV x) (fun w v hv => (clean_any x).use w v hv)
  rw [pdV_eq, pdV_eq] at c1
  have c1 : PCall Try.prog 17 [qV x] (qV (cleanV x)) := c1
  have c3 := identQ_p (cleanV x) (cleanV x)
  rw [sameG_iff.2 rfl] at c3
  generalize cleanV x = y at *
  refine pcall_of_run Try.func40 rfl Try.ntmps40 rfl (fun X => ?_)
  repeat' (first
    | refine run_seq ?_
    | (refine k_pick rfl ?_; first | refine k_assignD rfl rfl ?_ | refine k_boxW rfl rfl rfl (by first | rfl | (simp only [cellsD]; rfl)) ?_)
    | refine run_opsEnd ?_
    | refine run_region ?_
    | refine run_retOk (resOk_tmp rfl rfl ?_)
    | refine run_drawC (by kernel_rfl) ?_
    | refine c_nil (And.intro (by kernel_rfl) ?_)
    | refine c_pick (d_assignD rfl rfl) ?_
    | refine c_pick (d_loadW rfl rfl rfl (by first | rfl | (simp only [cellsD]; rfl))) ?_
    | refine c_pick (d_call rfl (by kernel_rfl) rfl (by first | exact c1 | exact c3)) ?_
    | fail)
  all_goals exact PLe.refl _

set_option maxHeartbeats 4000000 in
theorem lawSD_p (x : GV) (k : ByteArray) (v : GV) : PCall Try.prog 12 [qV x, .val (.string k), qV v] (.val (.bool true)) := by
  by_cases hx : x.l.length ≤ 2147483647 ∧ x.keys.length ≤ 2147483647
  rotate_left
  · have c1 := fits5_no x hx
    obtain ⟨b2, c2⟩ := fits5_p v
    refine pcall_of_run Try.func12 rfl Try.ntmps12 rfl (fun X => ?_)
    cases b2
    all_goals
      repeat' (first
    | refine run_seq ?_
    | (refine k_pick rfl ?_; first | refine k_assignD rfl rfl ?_ | refine k_moveD rfl rfl ?_ | refine k_loadW rfl rfl rfl (by first | rfl | (simp only [cellsD]; rfl)) ?_ | refine k_pickT rfl rfl (by first | rfl | assumption) rfl ?_ | refine k_boxW rfl rfl rfl (by first | rfl | (simp only [cellsD]; rfl)) ?_ | refine k_call rfl (by kernel_rfl) rfl (by first | exact c1 | exact c2) ?_ | refine k_not rfl rfl ?_)
    | refine run_opsEnd ?_
    | refine run_region ?_
    | refine run_condT rfl (by first | rfl | assumption) ?_
    | refine k_guardNF rfl rfl (by first | rfl | assumption) rfl ?_
    | refine run_retOk (resOk_tmp rfl rfl ?_)
    | fail)
    all_goals exact PLe.refl _
  obtain ⟨m, hm⟩ : ∃ m, m = plainM x.keys x.l [] := ⟨_, rfl⟩
  have hnd : (m.map (·.1)).Nodup := by rw [hm]; exact plainM_nd _ _
  have hpl : PlM m := by rw [hm]; exact PlM_plainM _ _ _ (fun _ h => by cases h)
  have hml : m.length ≤ 2147483647 := by have := plainM_len x.keys x.l []; rw [← hm] at this; simp at this; omega
  -- what is set
  have hnd1 := putA_nodup hnd k (plainJ v)
  have hpl1 := PlM_put (k := k) (z := v) hpl
  have hml1 := putA_length m k (plainJ v)
  obtain ⟨a1, a2, a3⟩ := again hnd1 hpl1
  -- what is deleted
  have hnd2 := del_nodup (k := k) hnd
  have hpl2 := PlM_del (k := k) hpl
  have hml2 := (delA_sub (k := k) (m := m)).length_le
  obtain ⟨b1, b2, b3⟩ := again hnd2 hpl2
  have cS := mapSet_p x k v (by omega) (by omega) (by rw [← hm]; omega)
  rw [← hm] at cS
  have cD2 := mapDel_p x k (by omega) (by omega)
  rw [← hm] at cD2
  have eS : unJ (.map (putA m k (plainJ v))) = unM (putA m k (plainJ v)) gMap := by simp only [unJ]
  have eD : unJ (.map (delA k m)) = unM (delA k m) gMap := by simp only [unJ]
  rw [eS] at cS
  rw [eD] at cD2
  have cD1 := mapDel_p (unM (putA m k (plainJ v)) gMap) k (by omega) (by omega)
  have cH := mapHas_p (unM (putA m k (plainJ v)) gMap) k (by omega) (by omega)
  have cS2 := mapSet_p (unM (delA k m) gMap) k v (by omega) (by omega) (by
    have := plainM_len (unM (delA k m) gMap).keys (unM (delA k m) gMap).l []
    simp at this; omega)
  have e1 : unJ (.map (delA k (plainM (unM (putA m k (plainJ v)) gMap).keys (unM (putA m k (plainJ v)) gMap).l []))) = unM (delA k m) gMap := by
    simp only [unJ]
    refine unM_ext (del_nodup (plainM_nd _ _)) hnd2 fun k' => ?_
    rw [getA_del (plainM_nd _ _), getA_del hnd]
    by_cases e : k = k'
    · rw [if_pos e, if_pos e]
    · rw [if_neg e, if_neg e, a1, getA_putA, if_neg e]
  have e2 : unJ (.map (putA (plainM (unM (delA k m) gMap).keys (unM (delA k m) gMap).l []) k (plainJ v))) = unM (putA m k (plainJ v)) gMap := by
    simp only [unJ]
    refine unM_ext (putA_nodup (plainM_nd _ _) _ _) hnd1 fun k' => ?_
    rw [getA_putA, getA_putA]
    by_cases e : k = k'
    · rw [if_pos e, if_pos e]
    · rw [if_neg e, if_neg e, b1, getA_del hnd, if_neg e]
  have e3 : (lkJ (plainM (unM (putA m k (plainJ v)) gMap).keys (unM (putA m k (plainJ v)) gMap).l []) k).isSome = true := by
    rw [lkJ_getA]
    have := a1 k
    rw [getA_putA, if_pos rfl] at this
    cases h : getA (plainM (unM (putA m k (plainJ v)) gMap).keys (unM (putA m k (plainJ v)) gMap).l []) k with
    | none => rw [h] at this; cases this
    | some j => rfl
  rw [e1] at cD1
  rw [e2] at cS2
  rw [e3] at cH
  have s1 := sameQ_p (unM (delA k m) gMap)
  have s2 := sameQ_p (unM (putA m k (plainJ v)) gMap)
  generalize unM (delA k m) gMap = D at *
  generalize unM (putA m k (plainJ v)) gMap = S at *
  clear e1 e2 e3 a1 a2 a3 b1 b2 b3 hnd1 hpl1 hml1 hnd2 hpl2 hml2 eS eD hml hpl hnd
  obtain ⟨f1, c1⟩ := fits5_p x
  obtain ⟨f2, c2⟩ := fits5_p v
  refine pcall_of_run Try.func12 rfl Try.ntmps12 rfl (fun X => ?_)
  cases hk : decide ((2147483647 : Int) < (k.size : Int))
  all_goals cases f1 <;> cases f2
  all_goals
    repeat' (first
    | refine run_seq ?_
    | (refine k_pick rfl ?_; first | refine k_assignD rfl rfl ?_ | refine k_moveD rfl rfl ?_ | refine k_loadW rfl rfl rfl (by first | rfl | (simp only [cellsD]; rfl)) ?_ | refine k_pickT rfl rfl (by first | rfl | assumption) rfl ?_ | refine k_pickF rfl rfl (by first | rfl | assumption) rfl ?_ | refine k_boxW rfl rfl rfl (by first | rfl | (simp only [cellsD]; rfl)) ?_ | refine k_call rfl (by kernel_rfl) rfl (by first | exact c1 | exact c2 | exact cS | exact cD1 | exact cD2 | exact cS2 | exact cH | exact s1 | exact s2) ?_ | refine k_not rfl rfl ?_ | refine k_storeW rfl rfl rfl (by first | rfl | (simp only [cellsD]; rfl)) (by first | rfl | (simp only [cellsD]; rfl)) rfl ?_ | refine k_alloc rfl rfl ?_)
    | refine run_opsEnd ?_
    | refine run_region ?_
    | refine run_condT rfl (by first | rfl | assumption) ?_
    | refine run_condF rfl (by first | rfl | assumption) ?_
    | (refine k_guardY rfl rfl (by first | rfl | assumption) ?_; first | refine k_moveD rfl rfl ?_ | refine k_loadW rfl rfl rfl (by first | rfl | (simp only [cellsD]; rfl)) ?_ | refine k_bin2B rfl rfl rfl rfl ?_ | refine k_call rfl (by kernel_rfl) rfl (by first | exact c1 | exact c2 | exact cS | exact cD1 | exact cD2 | exact cS2 | exact cH | exact s1 | exact s2) ?_ | refine k_lenS rfl rfl (by kernel_rfl) ?_ | refine k_not rfl rfl ?_)
    | refine k_guardNF rfl rfl (by first | rfl | assumption) rfl ?_
    | refine run_skip ?_
    | refine run_retOk (resOk_tmp rfl rfl ?_)
    | refine run_drawC (by kernel_rfl) ?_
    | refine c_nil (And.intro (by kernel_rfl) ?_)
    | refine c_pick (d_assignD rfl rfl) ?_
    | refine c_pick (d_moveD rfl rfl) ?_
    | refine c_pick (d_loadW rfl rfl rfl (by first | rfl | (simp only [cellsD]; rfl))) ?_
    | refine c_pick (d_pickT rfl rfl (by first | rfl | assumption) rfl) ?_
    | refine c_pick (d_call rfl (by kernel_rfl) rfl (by first | exact c1 | exact c2 | exact cS | exact cD1 | exact cD2 | exact cS2 | exact cH | exact s1 | exact s2)) ?_
    | refine c_pickY rfl (by first | rfl | assumption) (d_moveD rfl rfl) ?_
    | refine c_pickY rfl (by first | rfl | assumption) (d_loadW rfl rfl rfl (by first | rfl | (simp only [cellsD]; rfl))) ?_
    | refine c_pickY rfl (by first | rfl | assumption) (d_call rfl (by kernel_rfl) rfl (by first | exact c1 | exact c2 | exact cS | exact cD1 | exact cD2 | exact cS2 | exact cH | exact s1 | exact s2)) ?_
    | fail)
  all_goals exact PLe.refl _
end Go.Proofs.Ytlghpcokbppkfaa
