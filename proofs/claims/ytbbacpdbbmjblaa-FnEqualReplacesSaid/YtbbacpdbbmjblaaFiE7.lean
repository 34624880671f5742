/- Part 7 of what the proof rests on. -/
import Derived.Test.YtbbacpdbbmjblaaFiE3
import Derived.Test.YtbbacpdbbmjblaaFiE4
import Derived.Test.YtbbacpdbbmjblaaFiE5
import Derived.Test.YtbbacpdbbmjblaaFiE6
section
set_option linter.unusedVariables false
namespace Go.Proofs.Ytbbacpdbbmjblaa
open Go.RowKit
set_option linter.unusedSimpArgs false
set_option maxHeartbeats 4000000 in
theorem sMaps_p (k n : Int) (f : Nat) (s : ByteArray) (ks : List ByteArray) (l : List GV) (k' n' : Int) (f' : Nat) (s' : ByteArray) (ks' : List ByteArray) (l' : List GV) (hL : ks.length ≤ l.length) (hL' : ks'.length ≤ l'.length) (ih : ∀ a ∈ l, ∀ b ∈ l', PCall Try.prog 66 [qV a, qV b] (.val (.int .i64 (cmpP a b)))) :
    PCall Try.prog 55 [qV (.mk k n f s ks l), qV (.mk k' n' f' s' ks' l')] (.val (.int .i64 (cmpPm ks l ks' l'))) := by
  refine pcall_fits fun hfit => ?_
  have b1 := (Fits.aggAt (hfit (qV (.mk k n f s ks l)) (by simp)) 4 (d := .sl 1 16 (pdS ks)) rfl).sl.2.1
  rw [pdS_len] at b1
  clear hfit
  have hlk := pdS_len ks
  have hlk' := pdS_len ks'
  have cI := sInts_p (((pdS ks).length : Nat) : Int) (((pdS ks').length : Nat) : Int)
  refine pcall_of_run Try.func55 rfl Try.ntmps55 rfl (fun X => ?_)
  repeat' (first
    | refine run_seq ?_
    | (refine k_pick rfl ?_; first | refine k_assignD rfl rfl ?_ | refine k_boxW rfl rfl rfl (by first | rfl | (simp only [cellsD]; rfl)) ?_)
    | refine run_opsEnd ?_
    | refine run_region ?_
    | refine run_block ?_
    | fail)
  refine run_loopS (ι := { j : Nat // (j ≤ ks.length ∧ j ≤ ks'.length) ∧ ∀ i u v x y, i < j → ks[i]? = some u → ks'[i]? = some v → l[i]? = some x → l'[i]? = some y → cmpS u v = 0 ∧ cmpP x y = 0 })
    (fun j => [(2, .ptr 2 0), (3, .ptr 3 0), (5, .dat (.val (.int .i64 (j.1 : Nat))))])
    (fun _ => [(2, .box 43 (cellsD (qV (.mk k n f s ks l)))), (3, .box 43 (cellsD (qV (.mk k' n' f' s' ks' l'))))]) (fun j => ks.length - j.1) ⟨0, ⟨Nat.zero_le _, Nat.zero_le _⟩, fun i _ _ _ _ h => absurd h (Nat.not_lt_zero i)⟩ id ?_ ?_
  · (refine ⟨?_, ?_, by rfl⟩ <;> repeat' (first | exact trivial | exact ALe.ptr rfl | exact ALe.own rfl | exact ALe.elt rfl | exact BLe.boxD _ _ | exact BLe.row rfl | exact BLe.res | exact BLe.dead rfl | exact ALe.dat (PLe.refl _) | exact CLe.nil | refine And.intro ?_ ?_ | refine ALe.iface ?_ | refine ALe.clo ?_ | refine CLe.cons ?_ ?_ | refine BLe.box ?_ | refine BLe.row ?_ | exact ALe.any _ | refine ALe.dat (PLe.of_eq ?_)))
  rintro ⟨j, ⟨hj, hj'⟩, hall⟩
  have hend : j = ks.length ∨ j = ks'.length → cmpPm ks l ks' l' = cmpI (((pdS ks).length : Nat) : Int) (((pdS ks').length : Nat) : Int) := fun h => by
    rw [hlk, hlk']
    exact cmpPm_end hL hL' (fun i u v x y hu hv => hall i u v x y (by
      have := (List.getElem?_eq_some_iff.1 hu).1
      have := (List.getElem?_eq_some_iff.1 hv).1
      omega) hu hv)
  by_cases hlt : j < ks.length
  · have g1 : decide ((j : Int) < (((pdS ks).length : Nat) : Int)) = true := decide_eq_true (by omega)
    by_cases hlt' : j < ks'.length
    · have g2 : decide ((j : Int) < (((pdS ks').length : Nat) : Int)) = true := decide_eq_true (by omega)
      obtain ⟨u, hu⟩ : ∃ u, ks[j]? = some u := ⟨_, List.getElem?_eq_getElem hlt⟩
      obtain ⟨v, hv⟩ : ∃ v, ks'[j]? = some v := ⟨_, List.getElem?_eq_getElem hlt'⟩
      obtain ⟨x, hx⟩ : ∃ x, l[j]? = some x := ⟨_, List.getElem?_eq_getElem (by omega)⟩
      obtain ⟨y, hy⟩ : ∃ y, l'[j]? = some y := ⟨_, List.getElem?_eq_getElem (by omega)⟩
      have k1 : (pdS ks)[((j : Nat) : Int).toNat]? = some (.val (.string u)) := pdS_at hu
      have k2 : (pdS ks')[((j : Nat) : Int).toNat]? = some (.val (.string v)) := pdS_at hv
      have i1 : (pdVs l)[((j : Nat) : Int).toNat]? = some (qV x) := by rw [show qV x = pdV x from (pdV_eq x).symm]; exact pdVs_at hx
      have i2 : (pdVs l')[((j : Nat) : Int).toNat]? = some (qV y) := by rw [show qV y = pdV y from (pdV_eq y).symm]; exact pdVs_at hy
      have hC := ih x (List.mem_of_getElem? hx) y (List.mem_of_getElem? hy)
      have hS := sStrs_p u v
      by_cases hs : cmpS u v = 0
      · have g3 : decide (cmpS u v ≠ 0) = false := decide_eq_false (by simp [hs])
        by_cases hr : cmpP x y = 0
        · have g4 : decide (cmpP x y ≠ 0) = false := decide_eq_false (by simp [hr])
          repeat' (first
    | refine run_seq ?_
    | (refine k_pick rfl ?_; first | refine k_assignD rfl rfl ?_ | refine k_moveD rfl rfl ?_ | refine k_fieldAddrB rfl rfl rfl ?_ | refine k_loadBD rfl rfl rfl (by first | rfl | (simp only [cellsD]; rfl)) ?_ | refine k_bin2B rfl rfl rfl rfl ?_ | refine k_pickT rfl rfl (by first | rfl | assumption) rfl ?_ | refine k_lenD rfl rfl ?_ | refine k_ariI rfl rfl rfl rfl (by first | omega | (dsimp only; omega)) ?_)
    | refine run_opsEnd ?_
    | refine run_region ?_
    | refine run_condT rfl (by first | rfl | assumption) ?_
    | refine run_condF rfl (by first | rfl | assumption) ?_
    | (refine k_guardY rfl rfl (by first | rfl | assumption) ?_; first | refine k_moveD rfl rfl ?_ | refine k_fieldAddrB rfl rfl rfl ?_ | refine k_loadBD rfl rfl rfl (by first | rfl | (simp only [cellsD]; rfl)) ?_ | refine k_bin2B rfl rfl rfl rfl ?_ | refine k_lenD rfl rfl ?_)
    | refine run_block ?_
    | refine run_blkEnd ?_
    | refine run_skip ?_
    | refine run_drawC (by kernel_rfl) ?_
    | refine c_nil (And.intro (by kernel_rfl) ?_)
    | refine c_pick (d_indexAddrD rfl rfl rfl (by first | omega | (dsimp only; omega)) (by assumption)) ?_
    | refine c_pick (d_assignD rfl rfl) ?_
    | refine c_pick (d_moveD rfl rfl) ?_
    | refine c_pick (d_fieldAddrB rfl rfl rfl) ?_
    | refine c_pick (d_loadBD rfl rfl rfl (by first | rfl | (simp only [cellsD]; rfl))) ?_
    | refine c_pick (d_call rfl (by kernel_rfl) rfl (by first | exact hC | exact hS)) ?_
    | refine c_pick (d_loadD rfl rfl (by first | rfl | (simp only [cellsD]; rfl))) ?_
    | fail)
          refine run_again ?_
          refine ⟨⟨j + 1, ⟨by omega, by omega⟩, fun i u' v' x' y' hi hu' hv' hx' hy' => ?_⟩, id, by simp only; omega, ?_⟩
          · by_cases e : i = j
            · subst e
              rw [hu] at hu'; rw [hv] at hv'
              rw [hx] at hx'; rw [hy] at hy'
              cases hu'; cases hv'
              cases hx'; cases hy'
              exact ⟨hs, hr⟩
            · exact hall i u' v' x' y' (by omega) hu' hv' hx' hy'
          (refine ⟨?_, ?_, by rfl⟩ <;> repeat' (first | exact trivial | exact ALe.ptr rfl | exact ALe.own rfl | exact ALe.elt rfl | exact BLe.boxD _ _ | exact BLe.row rfl | exact BLe.res | exact BLe.dead rfl | exact ALe.dat (PLe.refl _) | exact CLe.nil | refine And.intro ?_ ?_ | refine ALe.iface ?_ | refine ALe.clo ?_ | refine CLe.cons ?_ ?_ | refine BLe.box ?_ | refine BLe.row ?_ | exact ALe.any _ | refine ALe.dat (PLe.of_eq ?_)))
        · have g4 : decide (cmpP x y ≠ 0) = true := decide_eq_true hr
          rw [cmpPm_ne2 hL hL' (fun i u v x y hi => hall i u v x y hi) hu hv hx hy hs hr]
          repeat' (first
    | refine run_seq ?_
    | (refine k_pick rfl ?_; first | refine k_assignD rfl rfl ?_ | refine k_moveD rfl rfl ?_ | refine k_fieldAddrB rfl rfl rfl ?_ | refine k_loadBD rfl rfl rfl (by first | rfl | (simp only [cellsD]; rfl)) ?_ | refine k_bin2B rfl rfl rfl rfl ?_ | refine k_pickT rfl rfl (by first | rfl | assumption) rfl ?_ | refine k_lenD rfl rfl ?_)
    | refine run_opsEnd ?_
    | refine run_region ?_
    | refine run_condT rfl (by first | rfl | assumption) ?_
    | refine run_condF rfl (by first | rfl | assumption) ?_
    | (refine k_guardY rfl rfl (by first | rfl | assumption) ?_; first | refine k_moveD rfl rfl ?_ | refine k_fieldAddrB rfl rfl rfl ?_ | refine k_loadBD rfl rfl rfl (by first | rfl | (simp only [cellsD]; rfl)) ?_ | refine k_bin2B rfl rfl rfl rfl ?_ | refine k_lenD rfl rfl ?_)
    | refine run_block ?_
    | refine run_skip ?_
    | refine run_retOk (resOk_tmp rfl rfl ?_)
    | refine run_drawC (by kernel_rfl) ?_
    | refine c_nil (And.intro (by kernel_rfl) ?_)
    | refine c_pick (d_indexAddrD rfl rfl rfl (by first | omega | (dsimp only; omega)) (by assumption)) ?_
    | refine c_pick (d_assignD rfl rfl) ?_
    | refine c_pick (d_moveD rfl rfl) ?_
    | refine c_pick (d_fieldAddrB rfl rfl rfl) ?_
    | refine c_pick (d_loadBD rfl rfl rfl (by first | rfl | (simp only [cellsD]; rfl))) ?_
    | refine c_pick (d_call rfl (by kernel_rfl) rfl (by first | exact hC | exact hS)) ?_
    | refine c_pick (d_loadD rfl rfl (by first | rfl | (simp only [cellsD]; rfl))) ?_
    | fail)
          all_goals exact PLe.refl _
      · have g3 : decide (cmpS u v ≠ 0) = true := decide_eq_true hs
        rw [cmpPm_ne1 hL hL' (fun i u v x y hi => hall i u v x y hi) hu hv hs]
        repeat' (first
    | refine run_seq ?_
    | (refine k_pick rfl ?_; first | refine k_assignD rfl rfl ?_ | refine k_moveD rfl rfl ?_ | refine k_fieldAddrB rfl rfl rfl ?_ | refine k_loadBD rfl rfl rfl (by first | rfl | (simp only [cellsD]; rfl)) ?_ | refine k_bin2B rfl rfl rfl rfl ?_ | refine k_pickT rfl rfl (by first | rfl | assumption) rfl ?_ | refine k_lenD rfl rfl ?_)
    | refine run_opsEnd ?_
    | refine run_region ?_
    | refine run_condT rfl (by first | rfl | assumption) ?_
    | (refine k_guardY rfl rfl (by first | rfl | assumption) ?_; first | refine k_moveD rfl rfl ?_ | refine k_fieldAddrB rfl rfl rfl ?_ | refine k_loadBD rfl rfl rfl (by first | rfl | (simp only [cellsD]; rfl)) ?_ | refine k_bin2B rfl rfl rfl rfl ?_ | refine k_lenD rfl rfl ?_)
    | refine run_block ?_
    | refine run_skip ?_
    | refine run_retOk (resOk_tmp rfl rfl ?_)
    | refine run_drawC (by kernel_rfl) ?_
    | refine c_nil (And.intro (by kernel_rfl) ?_)
    | refine c_pick (d_indexAddrD rfl rfl rfl (by first | omega | (dsimp only; omega)) (by assumption)) ?_
    | refine c_pick (d_assignD rfl rfl) ?_
    | refine c_pick (d_moveD rfl rfl) ?_
    | refine c_pick (d_fieldAddrB rfl rfl rfl) ?_
    | refine c_pick (d_loadBD rfl rfl rfl (by first | rfl | (simp only [cellsD]; rfl))) ?_
    | refine c_pick (d_call rfl (by kernel_rfl) rfl (by first | exact hC | exact hS)) ?_
    | refine c_pick (d_loadD rfl rfl (by first | rfl | (simp only [cellsD]; rfl))) ?_
    | fail)
        all_goals exact PLe.refl _
    · have g2 : decide ((j : Int) < (((pdS ks').length : Nat) : Int)) = false := decide_eq_false (by omega)
      rw [hend (.inr (by omega))]
      repeat' (first
    | refine run_seq ?_
    | (refine k_pick rfl ?_; first | refine k_assignD rfl rfl ?_ | refine k_moveD rfl rfl ?_ | refine k_fieldAddrB rfl rfl rfl ?_ | refine k_loadBD rfl rfl rfl (by first | rfl | (simp only [cellsD]; rfl)) ?_ | refine k_bin2B rfl rfl rfl rfl ?_ | refine k_pickT rfl rfl (by first | rfl | assumption) rfl ?_ | refine k_call rfl (by kernel_rfl) rfl (by first | exact cI) ?_ | refine k_lenD rfl rfl ?_)
    | refine run_opsEnd ?_
    | refine run_region ?_
    | refine run_condF rfl (by first | rfl | assumption) ?_
    | (refine k_guardY rfl rfl (by first | rfl | assumption) ?_; first | refine k_moveD rfl rfl ?_ | refine k_fieldAddrB rfl rfl rfl ?_ | refine k_loadBD rfl rfl rfl (by first | rfl | (simp only [cellsD]; rfl)) ?_ | refine k_bin2B rfl rfl rfl rfl ?_ | refine k_lenD rfl rfl ?_)
    | refine run_exit rfl ?_
    | refine run_retOk (resOk_tmp rfl rfl ?_)
    | fail)
      all_goals exact PLe.refl _
  · have g1 : decide ((j : Int) < (((pdS ks).length : Nat) : Int)) = false := decide_eq_false (by omega)
    rw [hend (.inl (by omega))]
    repeat' (first
    | refine run_seq ?_
    | (refine k_pick rfl ?_; first | refine k_assignD rfl rfl ?_ | refine k_moveD rfl rfl ?_ | refine k_fieldAddrB rfl rfl rfl ?_ | refine k_loadBD rfl rfl rfl (by first | rfl | (simp only [cellsD]; rfl)) ?_ | refine k_bin2B rfl rfl rfl rfl ?_ | refine k_pickF rfl rfl (by first | rfl | assumption) rfl ?_ | refine k_call rfl (by kernel_rfl) rfl (by first | exact cI) ?_ | refine k_lenD rfl rfl ?_)
    | refine run_opsEnd ?_
    | refine run_region ?_
    | refine run_condF rfl (by first | rfl | assumption) ?_
    | refine k_guardNT rfl rfl (by first | rfl | assumption) rfl ?_
    | refine run_exit rfl ?_
    | refine run_retOk (resOk_tmp rfl rfl ?_)
    | fail)
    all_goals exact PLe.refl _
theorem fits_fl {x : GV} (h : Fits (qV x)) : (Lit.float .f64 x.f).wf = true := by
  obtain ⟨w, F, v, hv⟩ := h.aggAt 2 (d := .val (.float .f64 x.f)) rfl
  unfold Rep at hv
  exact hv.2
theorem sAsFloat_p (x : GV) : PCall Try.prog 82 [qV x] (.val (.float .f64 (asF x))) := by
  refine pcall_fits fun hf => ?_
  have hx := fits_fl (hf _ (List.mem_singleton.2 rfl))
  have := pcall_V1s (P := Try.prog) (f := 82) (x := x) (u := .float .f64 (asF x)) (by
    show (Lit.float .f64 (asF x)).wf = true
    unfold asF
    split
    · exact floatOfInt_wf _ _
    · exact hx) (fun w v hv => asFloat_any x w v hv)
  rw [pdV_eq] at this
  exact this
theorem rank_cases (x : GV) : rankV x = 0 ∨ rankV x = 1 ∨ rankV x = 2 ∨ rankV x = 3 ∨ rankV x = 4 ∨ rankV x = 5 := by
  unfold rankV
  repeat' split
  all_goals simp
set_option maxHeartbeats 8000000 in
theorem sPlain_p1 (x y : GV) (hx : PlG x) (hy : PlG y) (ih : ∀ a ∈ x.l, ∀ b ∈ y.l, PCall Try.prog 66 [qV a, qV b] (.val (.int .i64 (cmpP a b)))) : PCall Try.prog 66 [qV x, qV y] (.val (.int .i64 (cmpP x y))) := by
  obtain ⟨k, n, f, s, ks, l⟩ := x
  obtain ⟨k', n', f', s', ks', l'⟩ := y
  simp only [PlG] at hx hy
  have c1 := sRank_p (.mk k n f s ks l)
  have c2 := sRank_p (.mk k' n' f' s' ks' l')
  have c3 := sInts_p (rankV (.mk k n f s ks l)) (rankV (.mk k' n' f' s' ks' l'))
  have c4 := sAsFloat_p (.mk k n f s ks l)
  have c5 := sAsFloat_p (.mk k' n' f' s' ks' l')
  have c6 := sFloats_p (asF (.mk k n f s ks l)) (asF (.mk k' n' f' s' ks' l'))
  have c7 := sStrs_p s s'
  have c8 := sInts_p n n'
  have c9 := sLists_p l l' ih
  have c10 := sMaps_p k n f s ks l k' n' f' s' ks' l' hx.1 hy.1 ih
  have hr := rank_cases (.mk k n f s ks l)
  rw [show cmpP (.mk k n f s ks l) (.mk k' n' f' s' ks' l') = if cmpI (rankV (.mk k n f s ks l)) (rankV (.mk k' n' f' s' ks' l')) ≠ 0 then cmpI (rankV (.mk k n f s ks l)) (rankV (.mk k' n' f' s' ks' l'))
    else if rankV (.mk k n f s ks l) = 0 then (if k = 2 ∧ k' = 2 then cmpI n n' else cmpFs (asF (.mk k n f s ks l)) (asF (.mk k' n' f' s' ks' l')))
    else if rankV (.mk k n f s ks l) = 1 then cmpS s s'
    else if rankV (.mk k n f s ks l) = 2 then cmpI n n'
    else if rankV (.mk k n f s ks l) = 3 then cmpPl l l'
    else if rankV (.mk k n f s ks l) = 4 then cmpPm ks l ks' l'
    else 0 by simp only [cmpP]]
  clear ih hx hy
  generalize rankV (.mk k n f s ks l) = r at *
  generalize rankV (.mk k' n' f' s' ks' l') = r' at *
  generalize asF (.mk k n f s ks l) = A at *
  generalize asF (.mk k' n' f' s' ks' l') = B at *
  generalize cmpI r r' = R at *
  generalize cmpI n n' = R2 at *
  refine pcall_of_run Try.func66 rfl Try.ntmps66 rfl (fun X => ?_)
  by_cases h0 : R = 0
  rotate_left
  · have g0 : decide (R ≠ 0) = true := decide_eq_true h0
    rw [if_pos h0]
    repeat' (first
    | refine run_seq ?_
    | (refine k_pick rfl ?_; first | refine k_assignD rfl rfl ?_ | refine k_moveD rfl rfl ?_ | refine k_bin2B rfl rfl rfl rfl ?_ | refine k_boxW rfl rfl rfl (by first | rfl | (simp only [cellsD]; rfl)) ?_)
    | refine run_opsEnd ?_
    | refine run_region ?_
    | refine run_condT rfl (by first | rfl | assumption) ?_
    | refine run_retOk (resOk_tmp rfl rfl ?_)
    | refine run_drawC (by kernel_rfl) ?_
    | refine c_nil (And.intro (by kernel_rfl) ?_)
    | refine c_pick (d_assignD rfl rfl) ?_
    | refine c_pick (d_loadW rfl rfl rfl (by first | rfl | (simp only [cellsD]; rfl))) ?_
    | refine c_pick (d_call rfl (by kernel_rfl) rfl (by first | exact c1 | exact c2 | exact c3)) ?_
    | fail)
    all_goals exact PLe.refl _
  have g0 : decide (R ≠ 0) = false := decide_eq_false (by simp [h0])
  rw [if_neg (by simp [h0])]
  rcases hr with hr | hr | hr | hr | hr | hr <;> subst hr
  · rw [if_pos rfl]
    by_cases e1 : k = 2
    · have q1 : decide (k = 2) = true := decide_eq_true e1
      by_cases e2 : k' = 2
      · have q2 : decide (k' = 2) = true := decide_eq_true e2
        rw [if_pos ⟨e1, e2⟩]
        repeat' (first
    | refine run_seq ?_
    | (refine k_pick rfl ?_; first | refine k_assignD rfl rfl ?_ | refine k_moveD rfl rfl ?_ | refine k_fieldAddrB rfl rfl rfl ?_ | refine k_loadW rfl rfl rfl (by first | rfl | (simp only [cellsD]; rfl)) ?_ | refine k_loadBD rfl rfl rfl (by first | rfl | (simp only [cellsD]; rfl)) ?_ | refine k_bin2B rfl rfl rfl rfl ?_ | refine k_pickT rfl rfl (by first | rfl | assumption) rfl ?_ | refine k_boxW rfl rfl rfl (by first | rfl | (simp only [cellsD]; rfl)) ?_ | refine k_call rfl (by kernel_rfl) rfl (by first | exact c1 | exact c2 | exact c3 | exact c8) ?_)
    | refine run_opsEnd ?_
    | refine run_region ?_
    | refine run_condT rfl (by first | rfl | assumption) ?_
    | refine run_condF rfl (by first | rfl | assumption) ?_
    | (refine k_guardY rfl rfl (by first | rfl | assumption) ?_; first | refine k_fieldAddrB rfl rfl rfl ?_ | refine k_loadBD rfl rfl rfl (by first | rfl | (simp only [cellsD]; rfl)) ?_ | refine k_bin2B rfl rfl rfl rfl ?_)
    | refine run_block ?_
    | refine run_skip ?_
    | refine run_retOk (resOk_tmp rfl rfl ?_)
    | refine run_drawC (by kernel_rfl) ?_
    | refine c_nil (And.intro (by kernel_rfl) ?_)
    | refine c_pick (d_assignD rfl rfl) ?_
    | refine c_pick (d_loadW rfl rfl rfl (by first | rfl | (simp only [cellsD]; rfl))) ?_
    | refine c_pick (d_call rfl (by kernel_rfl) rfl (by first | exact c1 | exact c2 | exact c3 | exact c8)) ?_
    | fail)
        all_goals exact PLe.refl _
      · have q2 : decide (k' = 2) = false := decide_eq_false e2
        rw [if_neg (fun h => e2 h.2)]
        repeat' (first
    | refine run_seq ?_
    | (refine k_pick rfl ?_; first | refine k_assignD rfl rfl ?_ | refine k_moveD rfl rfl ?_ | refine k_fieldAddrB rfl rfl rfl ?_ | refine k_loadW rfl rfl rfl (by first | rfl | (simp only [cellsD]; rfl)) ?_ | refine k_loadBD rfl rfl rfl (by first | rfl | (simp only [cellsD]; rfl)) ?_ | refine k_bin2B rfl rfl rfl rfl ?_ | refine k_pickT rfl rfl (by first | rfl | assumption) rfl ?_ | refine k_boxW rfl rfl rfl (by first | rfl | (simp only [cellsD]; rfl)) ?_ | refine k_call rfl (by kernel_rfl) rfl (by first | exact c1 | exact c2 | exact c3 | exact c4 | exact c5 | exact c6) ?_)
    | refine run_opsEnd ?_
    | refine run_region ?_
    | refine run_condT rfl (by first | rfl | assumption) ?_
    | refine run_condF rfl (by first | rfl | assumption) ?_
    | (refine k_guardY rfl rfl (by first | rfl | assumption) ?_; first | refine k_fieldAddrB rfl rfl rfl ?_ | refine k_loadBD rfl rfl rfl (by first | rfl | (simp only [cellsD]; rfl)) ?_ | refine k_bin2B rfl rfl rfl rfl ?_)
    | refine run_block ?_
    | refine run_skip ?_
    | refine run_retOk (resOk_tmp rfl rfl ?_)
    | refine run_drawC (by kernel_rfl) ?_
    | refine c_nil (And.intro (by kernel_rfl) ?_)
    | refine c_pick (d_assignD rfl rfl) ?_
    | refine c_pick (d_loadW rfl rfl rfl (by first | rfl | (simp only [cellsD]; rfl))) ?_
    | refine c_pick (d_call rfl (by kernel_rfl) rfl (by first | exact c1 | exact c2 | exact c3 | exact c4 | exact c5 | exact c6)) ?_
    | fail)
        all_goals exact PLe.refl _
    · have q1 : decide (k = 2) = false := decide_eq_false e1
      rw [if_neg (fun h => e1 h.1)]
      repeat' (first
    | refine run_seq ?_
    | (refine k_pick rfl ?_; first | refine k_assignD rfl rfl ?_ | refine k_moveD rfl rfl ?_ | refine k_fieldAddrB rfl rfl rfl ?_ | refine k_loadW rfl rfl rfl (by first | rfl | (simp only [cellsD]; rfl)) ?_ | refine k_loadBD rfl rfl rfl (by first | rfl | (simp only [cellsD]; rfl)) ?_ | refine k_bin2B rfl rfl rfl rfl ?_ | refine k_pickF rfl rfl (by first | rfl | assumption) rfl ?_ | refine k_boxW rfl rfl rfl (by first | rfl | (simp only [cellsD]; rfl)) ?_ | refine k_call rfl (by kernel_rfl) rfl (by first | exact c1 | exact c2 | exact c3 | exact c4 | exact c5 | exact c6) ?_)
    | refine run_opsEnd ?_
    | refine run_region ?_
    | refine run_condT rfl (by first | rfl | assumption) ?_
    | refine run_condF rfl (by first | rfl | assumption) ?_
    | refine k_guardNT rfl rfl (by first | rfl | assumption) rfl ?_
    | refine run_block ?_
    | refine run_skip ?_
    | refine run_retOk (resOk_tmp rfl rfl ?_)
    | refine run_drawC (by kernel_rfl) ?_
    | refine c_nil (And.intro (by kernel_rfl) ?_)
    | refine c_pick (d_assignD rfl rfl) ?_
    | refine c_pick (d_loadW rfl rfl rfl (by first | rfl | (simp only [cellsD]; rfl))) ?_
    | refine c_pick (d_call rfl (by kernel_rfl) rfl (by first | exact c1 | exact c2 | exact c3 | exact c4 | exact c5 | exact c6)) ?_
    | fail)
      all_goals exact PLe.refl _
  · rw [if_neg (by decide), if_pos rfl]
    repeat' (first
    | refine run_seq ?_
    | (refine k_pick rfl ?_; first | refine k_assignD rfl rfl ?_ | refine k_moveD rfl rfl ?_ | refine k_fieldAddrB rfl rfl rfl ?_ | refine k_loadW rfl rfl rfl (by first | rfl | (simp only [cellsD]; rfl)) ?_ | refine k_loadBD rfl rfl rfl (by first | rfl | (simp only [cellsD]; rfl)) ?_ | refine k_bin2B rfl rfl rfl rfl ?_ | refine k_boxW rfl rfl rfl (by first | rfl | (simp only [cellsD]; rfl)) ?_ | refine k_call rfl (by kernel_rfl) rfl (by first | exact c1 | exact c2 | exact c3 | exact c7) ?_)
    | refine run_opsEnd ?_
    | refine run_region ?_
    | refine run_condT rfl (by first | rfl | assumption) ?_
    | refine run_condF rfl (by first | rfl | assumption) ?_
    | refine run_block ?_
    | refine run_skip ?_
    | refine run_retOk (resOk_tmp rfl rfl ?_)
    | refine run_drawC (by kernel_rfl) ?_
    | refine c_nil (And.intro (by kernel_rfl) ?_)
    | refine c_pick (d_assignD rfl rfl) ?_
    | refine c_pick (d_loadW rfl rfl rfl (by first | rfl | (simp only [cellsD]; rfl))) ?_
    | refine c_pick (d_call rfl (by kernel_rfl) rfl (by first | exact c1 | exact c2 | exact c3 | exact c7)) ?_
    | fail)
    all_goals exact PLe.refl _
  · rw [if_neg (by decide), if_neg (by decide), if_pos rfl]
    repeat' (first
    | refine run_seq ?_
    | (refine k_pick rfl ?_; first | refine k_assignD rfl rfl ?_ | refine k_moveD rfl rfl ?_ | refine k_fieldAddrB rfl rfl rfl ?_ | refine k_loadW rfl rfl rfl (by first | rfl | (simp only [cellsD]; rfl)) ?_ | refine k_loadBD rfl rfl rfl (by first | rfl | (simp only [cellsD]; rfl)) ?_ | refine k_bin2B rfl rfl rfl rfl ?_ | refine k_boxW rfl rfl rfl (by first | rfl | (simp only [cellsD]; rfl)) ?_ | refine k_call rfl (by kernel_rfl) rfl (by first | exact c1 | exact c2 | exact c3 | exact c8) ?_)
    | refine run_opsEnd ?_
    | refine run_region ?_
    | refine run_condT rfl (by first | rfl | assumption) ?_
    | refine run_condF rfl (by first | rfl | assumption) ?_
    | refine run_block ?_
    | refine run_skip ?_
    | refine run_retOk (resOk_tmp rfl rfl ?_)
    | refine run_drawC (by kernel_rfl) ?_
    | refine c_nil (And.intro (by kernel_rfl) ?_)
    | refine c_pick (d_assignD rfl rfl) ?_
    | refine c_pick (d_loadW rfl rfl rfl (by first | rfl | (simp only [cellsD]; rfl))) ?_
    | refine c_pick (d_call rfl (by kernel_rfl) rfl (by first | exact c1 | exact c2 | exact c3 | exact c8)) ?_
    | fail)
    all_goals exact PLe.refl _
  · rw [if_neg (by decide), if_neg (by decide), if_neg (by decide), if_pos rfl]
    repeat' (first
    | refine run_seq ?_
    | (refine k_pick rfl ?_; first | refine k_assignD rfl rfl ?_ | refine k_moveD rfl rfl ?_ | refine k_fieldAddrB rfl rfl rfl ?_ | refine k_loadW rfl rfl rfl (by first | rfl | (simp only [cellsD]; rfl)) ?_ | refine k_loadBD rfl rfl rfl (by first | rfl | (simp only [cellsD]; rfl)) ?_ | refine k_bin2B rfl rfl rfl rfl ?_ | refine k_boxW rfl rfl rfl (by first | rfl | (simp only [cellsD]; rfl)) ?_ | refine k_call rfl (by kernel_rfl) rfl (by first | exact c1 | exact c2 | exact c3 | exact c9) ?_)
    | refine run_opsEnd ?_
    | refine run_region ?_
    | refine run_condT rfl (by first | rfl | assumption) ?_
    | refine run_condF rfl (by first | rfl | assumption) ?_
    | refine run_block ?_
    | refine run_skip ?_
    | refine run_retOk (resOk_tmp rfl rfl ?_)
    | refine run_drawC (by kernel_rfl) ?_
    | refine c_nil (And.intro (by kernel_rfl) ?_)
    | refine c_pick (d_assignD rfl rfl) ?_
    | refine c_pick (d_loadW rfl rfl rfl (by first | rfl | (simp only [cellsD]; rfl))) ?_
    | refine c_pick (d_call rfl (by kernel_rfl) rfl (by first | exact c1 | exact c2 | exact c3 | exact c9)) ?_
    | fail)
    all_goals exact PLe.refl _
  · rw [if_neg (by decide), if_neg (by decide), if_neg (by decide), if_neg (by decide), if_pos rfl]
    repeat' (first
    | refine run_seq ?_
    | (refine k_pick rfl ?_; first | refine k_assignD rfl rfl ?_ | refine k_moveD rfl rfl ?_ | refine k_loadW rfl rfl rfl (by first | rfl | (simp only [cellsD]; rfl)) ?_ | refine k_bin2B rfl rfl rfl rfl ?_ | refine k_boxW rfl rfl rfl (by first | rfl | (simp only [cellsD]; rfl)) ?_ | refine k_call rfl (by kernel_rfl) rfl (by first | exact c1 | exact c2 | exact c3 | exact c10) ?_)
    | refine run_opsEnd ?_
    | refine run_region ?_
    | refine run_condT rfl (by first | rfl | assumption) ?_
    | refine run_condF rfl (by first | rfl | assumption) ?_
    | refine run_block ?_
    | refine run_skip ?_
    | refine run_retOk (resOk_tmp rfl rfl ?_)
    | refine run_drawC (by kernel_rfl) ?_
    | refine c_nil (And.intro (by kernel_rfl) ?_)
    | refine c_pick (d_assignD rfl rfl) ?_
    | refine c_pick (d_loadW rfl rfl rfl (by first | rfl | (simp only [cellsD]; rfl))) ?_
    | refine c_pick (d_call rfl (by kernel_rfl) rfl (by first | exact c1 | exact c2 | exact c3 | exact c10)) ?_
    | fail)
    all_goals exact PLe.refl _
  · rw [if_neg (by decide), if_neg (by decide), if_neg (by decide), if_neg (by decide), if_neg (by decide)]
    repeat' (first
    | refine run_seq ?_
    | (refine k_pick rfl ?_; first | refine k_assignD rfl rfl ?_ | refine k_moveD rfl rfl ?_ | refine k_loadW rfl rfl rfl (by first | rfl | (simp only [cellsD]; rfl)) ?_ | refine k_bin2B rfl rfl rfl rfl ?_ | refine k_boxW rfl rfl rfl (by first | rfl | (simp only [cellsD]; rfl)) ?_ | refine k_call rfl (by kernel_rfl) rfl (by first | exact c1 | exact c2 | exact c3) ?_)
    | refine run_opsEnd ?_
    | refine run_region ?_
    | refine run_condF rfl (by first | rfl | assumption) ?_
    | refine run_block ?_
    | refine run_blkEnd ?_
    | refine run_skip ?_
    | refine run_retOk (resOk_tmp rfl rfl ?_)
    | refine run_drawC (by kernel_rfl) ?_
    | refine c_nil (And.intro (by kernel_rfl) ?_)
    | refine c_pick (d_assignD rfl rfl) ?_
    | refine c_pick (d_loadW rfl rfl rfl (by first | rfl | (simp only [cellsD]; rfl))) ?_
    | refine c_pick (d_call rfl (by kernel_rfl) rfl (by first | exact c1 | exact c2 | exact c3)) ?_
    | fail)
    all_goals exact PLe.refl _
theorem sPlain_p : ∀ (x y : GV), PlG x → PlG y → PCall Try.prog 66 [qV x, qV y] (.val (.int .i64 (cmpP x y)))
  | .mk k n f s ks l, .mk k' n' f' s' ks' l', hx, hy => sPlain_p1 _ _ hx hy (fun a ha b hb => sPlain_p a b (PlGs_mem (by simp only [PlG] at hx; exact hx.2) a ha) (PlGs_mem (by simp only [PlG] at hy; exact hy.2) b hb))
termination_by x => SizeOf.sizeOf x
decreasing_by
  simp_wf
  have ha : a ∈ l := ha
  have := List.sizeOf_lt_of_mem ha
  omega
end Go.Proofs.Ytbbacpdbbmjblaa
end
section
set_option linter.unusedVariables false
namespace Go.Proofs.Ytbbacpdbbmjblaa
set_option linter.unusedSimpArgs false
theorem cmpFs_eq (a b : Nat) : cmpFs a b = cmpF a b := by
  unfold cmpFs cmpF
  cases FloatKind.f64.format.order a b with
  | none => rfl
  | some o => cases o <;> rfl
theorem cmpS_lt {a b : ByteArray} (h : blt a b = true) : cmpS a b = -1 := by unfold cmpS; rw [if_pos h]
theorem cmpS_gt {a b : ByteArray} (h : blt b a = true) : cmpS a b = 1 := by unfold cmpS; rw [if_neg (by rw [blt_asymm h]; simp), if_pos h]
theorem cmpS_self (a : ByteArray) : cmpS a a = 0 := by unfold cmpS; rw [if_neg (by rw [blt_irrefl]; simp), if_neg (by rw [blt_irrefl]; simp)]
theorem incr_head {u : ByteArray} {U : List ByteArray} (h : Incr (u :: U)) : (∀ b ∈ U, blt u b = true) ∧ Incr U := List.pairwise_cons.1 h
theorem cmp_map : ∀ (ks : List ByteArray) (l : List GV) (ks' : List ByteArray) (l' : List GV) (U : List ByteArray) (i : Nat) (m q : List (ByteArray × JV)), Incr ks → Incr ks' → Incr U → (∀ k, k ∈ U ↔ k ∈ ks ∨ k ∈ ks') → ks.length = l.length → ks'.length = l'.length → i + ks.length = m.length → i + ks'.length = q.length →
    (∀ k ∈ U, ∀ z, getA (ks.zip l) k = some z ↔ ∃ x, lkJ m k = some x ∧ unJ x = z) → (∀ k ∈ U, ∀ z, getA (ks'.zip l') k = some z ↔ ∃ x, lkJ q k = some x ∧ unJ x = z) →
    (∀ k x y, lkJ m k = some x → lkJ q k = some y → cmpP (unJ x) (unJ y) = cmpJ x y) → cmpPm ks l ks' l' = cmpKs cmpJ m q i U
  | [], l, [], l', U, i, m, q, _, _, _, hU, _, _, _, _, _, _, _ => by
    have : U = [] := List.eq_nil_iff_forall_not_mem.2 fun k hk => by simpa using (hU k).1 hk
    subst this
    simp only [cmpPm, cmpKs]; rfl
  | [], l, b :: r', l', U, i, m, q, _, _, _, hU, _, _, hm, hq, _, _, _ => by
    cases U with
    | nil => have := (hU b).2 (by simp); simp at this
    | cons u U =>
      simp only [cmpPm, cmpKs]
      have e : stepC cmpJ m q i u = -1 := by unfold stepC; rw [if_pos (by simpa using hm)]
      rw [e, if_neg (by decide)]
      unfold cmpI
      first | (simp; done) | (simp; omega)
  | a :: r, l, [], l', U, i, m, q, _, _, _, hU, hl, _, hm, hq, _, _, _ => by
    cases U with
    | nil => have := (hU a).2 (by simp); simp at this
    | cons u U =>
      have e : stepC cmpJ m q i u = 1 := by
        unfold stepC
        simp at hm hq
        rw [if_neg (by omega), if_pos (by omega)]
      cases l <;> simp only [cmpPm, cmpKs] <;> rw [e, if_neg (by decide)] <;> unfold cmpI <;> first | (simp; done) | (simp; omega)
  | a :: r, [], b :: r', l', U, i, m, q, _, _, _, _, hl, _, _, _, _, _, _ => by simp at hl
  | a :: r, _ :: _, b :: r', [], U, i, m, q, _, _, _, _, _, hl', _, _, _, _, _ => by simp at hl'
  | a :: r, z :: l, b :: r', z' :: l', U, i, m, q, h1, h2, h3, hU, hl, hl', hm, hq, hv, hv', ih => by
    obtain ⟨h1a, h1b⟩ := incr_head h1
    obtain ⟨h2a, h2b⟩ := incr_head h2
    cases U with
    | nil => have := (hU a).2 (by simp); simp at this
    | cons u U =>
      obtain ⟨h3a, h3b⟩ := incr_head h3
      have him : i ≠ m.length := by simp at hm; omega
      have hiq : i ≠ q.length := by simp at hq; omega
      have hua : u = a ∨ blt u a = true := by
        rcases List.mem_cons.1 ((hU a).2 (by simp)) with h | h
        · exact .inl h.symm
        · exact .inr (h3a a h)
      have hub : u = b ∨ blt u b = true := by
        rcases List.mem_cons.1 ((hU b).2 (by simp)) with h | h
        · exact .inl h.symm
        · exact .inr (h3a b h)
      have hu := (hU u).1 (by simp)
      have none_m : ∀ k, k ∉ a :: r → k ∈ u :: U → lkJ m k = none := by
        intro k hk hkU
        cases h : lkJ m k with
        | none => rfl
        | some x =>
          have := (hv k hkU (unJ x)).2 ⟨x, h, rfl⟩
          exact absurd (List.of_mem_zip (a := k) (b := unJ x) (getA_mem this)).1 hk
      have none_q : ∀ k, k ∉ b :: r' → k ∈ u :: U → lkJ q k = none := by
        intro k hk hkU
        cases h : lkJ q k with
        | none => rfl
        | some x =>
          have := (hv' k hkU (unJ x)).2 ⟨x, h, rfl⟩
          exact absurd (List.of_mem_zip (a := k) (b := unJ x) (getA_mem this)).1 hk
      have hcmp : cmpPm (a :: r) (z :: l) (b :: r') (z' :: l') = if cmpS a b ≠ 0 then cmpS a b else if cmpP z z' ≠ 0 then cmpP z z' else cmpPm r l r' l' := by simp only [cmpPm]
      rw [hcmp]
      simp only [cmpKs]
      cases hab : blt a b with
      | true =>
        have e : u = a := by
          rcases hu with h | h
          · rcases List.mem_cons.1 h with h | h
            · exact h
            · rcases hua with e | e
              · exact e
              · have := h1a u h; rw [blt_asymm this] at e; cases e
          · exfalso
            have hbu : blt a u = true := by
              rcases List.mem_cons.1 h with h | h
              · rw [h]; exact hab
              · exact blt_trans hab (h2a u h)
            rcases hua with e | e
            · rw [e, blt_irrefl] at hbu; cases hbu
            · rw [blt_asymm hbu] at e; cases e
        subst e
        obtain ⟨x, hx, _⟩ := (hv u (by simp) z).1 (by simp [getA])
        have hn := none_q u (fun h => by
          rcases List.mem_cons.1 h with h | h
          · rw [h, blt_irrefl] at hab; cases hab
          · have := blt_trans hab (h2a u h); rw [blt_irrefl] at this; cases this) (by simp)
        have e : stepC cmpJ m q i u = -1 := by unfold stepC; rw [if_neg him, if_neg hiq, hx, hn]
        rw [cmpS_lt hab, if_pos (by decide), e, if_neg (by decide)]
      | false =>
        cases hba : blt b a with
        | true =>
          have e : u = b := by
            rcases hu with h | h
            · exfalso
              have hbu : blt b u = true := by
                rcases List.mem_cons.1 h with h | h
                · rw [h]; exact hba
                · exact blt_trans hba (h1a u h)
              rcases hub with e | e
              · rw [e, blt_irrefl] at hbu; cases hbu
              · rw [blt_asymm hbu] at e; cases e
            · rcases List.mem_cons.1 h with h | h
              · exact h
              · rcases hub with e | e
                · exact e
                · have := h2a u h; rw [blt_asymm this] at e; cases e
          subst e
          have hn := none_m u (fun h => by
            rcases List.mem_cons.1 h with h | h
            · rw [h, blt_irrefl] at hba; cases hba
            · have := blt_trans hba (h1a u h); rw [blt_irrefl] at this; cases this) (by simp)
          have e : stepC cmpJ m q i u = 1 := by unfold stepC; rw [if_neg him, if_neg hiq, hn]
          rw [cmpS_gt hba, if_pos (by decide), e, if_neg (by decide)]
        | false =>
          have e0 : a = b := blt_total hab hba
          subst e0
          have e : u = a := by
            rcases hua with e | e
            · exact e
            · exfalso
              rcases hu with h | h
              · rcases List.mem_cons.1 h with h | h
                · rw [h, blt_irrefl] at e; cases e
                · have := h1a u h; rw [blt_asymm this] at e; cases e
              · rcases List.mem_cons.1 h with h | h
                · rw [h, blt_irrefl] at e; cases e
                · have := h2a u h; rw [blt_asymm this] at e; cases e
          subst e
          obtain ⟨x, hx, ex⟩ := (hv u (by simp) z).1 (by simp [getA])
          obtain ⟨y, hy, ey⟩ := (hv' u (by simp) z').1 (by simp [getA])
          have e : stepC cmpJ m q i u = cmpJ x y := by unfold stepC; rw [if_neg him, if_neg hiq, hx, hy]
          have e2 : cmpP z z' = cmpJ x y := by rw [← ex, ← ey]; exact ih u x y hx hy
          rw [cmpS_self, if_neg (by simp), e, e2]
          by_cases hc : cmpJ x y = 0
          · rw [if_neg (by simp [hc]), if_pos hc]
            have hne : ∀ k ∈ U, u ≠ k := fun k hk e => by have := h3a k hk; rw [← e, blt_irrefl] at this; cases this
            refine cmp_map r l r' l' U (i + 1) m q h1b h2b h3b (fun k => ⟨fun hk => ?_, fun hk => ?_⟩) (by simpa using hl) (by simpa using hl') (by simp at hm; omega) (by simp at hq; omega) (fun k hk w => ?_) (fun k hk w => ?_) ih
            · rcases (hU k).1 (by simp [hk]) with h | h
              · rcases List.mem_cons.1 h with h | h
                · exact absurd h.symm (hne k hk)
                · exact .inl h
              · rcases List.mem_cons.1 h with h | h
                · exact absurd h.symm (hne k hk)
                · exact .inr h
            · have hmem : k ∈ u :: U := (hU k).2 (hk.imp (by simp_all) (by simp_all))
              rcases List.mem_cons.1 hmem with h | h
              · exfalso
                subst h
                rcases hk with hk | hk
                · have := h1a k hk; rw [blt_irrefl] at this; cases this
                · have := h2a k hk; rw [blt_irrefl] at this; cases this
              · exact h
            · have := hv k (by simp [hk]) w
              simp only [List.zip_cons_cons, getA, if_neg (hne k hk)] at this
              exact this
            · have := hv' k (by simp [hk]) w
              simp only [List.zip_cons_cons, getA, if_neg (hne k hk)] at this
              exact this
          · rw [if_pos hc, if_neg hc]
theorem cmp_list : ∀ (b a : List JV), (∀ y ∈ b, ∀ x, JOk x → JOk y → cmpP (unJ x) (unJ y) = cmpJ x y) → JOks a → JOks b → cmpPl (unJs a) (unJs b) = cmpLs cmpJ a b
  | [], [], _, _, _ => by simp only [unJs, cmpPl, cmpLs]; rfl
  | [], x :: a, _, _, _ => by
    simp only [unJs, cmpPl, cmpLs]
    unfold cmpI
    first | (simp; done) | (simp; omega)
  | y :: b, [], _, _, _ => by
    simp only [unJs, cmpPl, cmpLs]
    unfold cmpI
    first | (simp; done) | (simp; omega)
  | y :: b, x :: a, ih, ha, hb => by
    simp only [JOks] at ha hb
    simp only [unJs, cmpPl, cmpLs]
    rw [ih y (by simp) x ha.1 hb.1, cmp_list b a (fun z hz => ih z (by simp [hz])) ha.2 hb.2]
    by_cases h : cmpJ x y = 0
    · rw [if_neg (by simp [h]), if_pos h]
    · rw [if_pos h, if_neg h]
theorem rank_un (j : JV) : rankV (unJ j) = (rankJ j : Int) := by
  cases j
  case map m =>
    obtain ⟨ks, l, e, _⟩ := unM_plain m gMap gMap_plain
    rw [show unJ (.map m) = unM m gMap by unfold unJ; rfl, e]; rfl
  all_goals (unfold unJ; rfl)
theorem cmpP_diff {x y : GV} (h : cmpI (rankV x) (rankV y) ≠ 0) : cmpP x y = cmpI (rankV x) (rankV y) := by
  cases x; cases y
  simp only [cmpP]
  rw [if_pos h]
theorem cmpJ_diff {j k : JV} (h : rankJ j ≠ rankJ k) : cmpJ j k = if rankJ j < rankJ k then -1 else 1 := by
  cases j <;> cases k <;> first | exact absurd rfl h | (unfold cmpJ; rfl) | (simp only [cmpJ])
theorem cmpP_0 {k n : Int} {f : Nat} {s : ByteArray} {ks : List ByteArray} {l : List GV} {k' n' : Int} {f' : Nat} {s' : ByteArray} {ks' : List ByteArray} {l' : List GV} (r : Int) (h : rankV (.mk k n f s ks l) = r) (h' : rankV (.mk k' n' f' s' ks' l') = r) :
    cmpP (.mk k n f s ks l) (.mk k' n' f' s' ks' l') = if r = 0 then (if k = 2 ∧ k' = 2 then cmpI n n' else cmpFs (asF (.mk k n f s ks l)) (asF (.mk k' n' f' s' ks' l'))) else if r = 1 then cmpS s s' else if r = 2 then cmpI n n' else if r = 3 then cmpPl l l' else if r = 4 then cmpPm ks l ks' l' else 0 := by
  simp only [cmpP]
  rw [h, h', if_neg (by unfold cmpI; simp)]
theorem cmp_law : ∀ (k j : JV), JOk j → JOk k → cmpP (unJ j) (unJ k) = cmpJ j k := by
  intro k
  induction hk : SizeOf.sizeOf k using Nat.strongRecOn generalizing k with
  | _ n IH =>
  subst hk
  intro j hj hok
  by_cases hr : rankJ j = rankJ k
  rotate_left
  · have h1 := rank_un j
    have h2 := rank_un k
    have h3 : cmpI (rankV (unJ j)) (rankV (unJ k)) = if rankJ j < rankJ k then -1 else 1 := by
      rw [h1, h2]
      unfold cmpI
      by_cases h : rankJ j < rankJ k
      · rw [if_pos (by omega), if_pos h]
      · rw [if_neg (by omega), if_pos (by omega), if_neg h]
    rw [cmpJ_diff hr, ← h3]
    exact cmpP_diff (by rw [h3]; split <;> decide)
  cases j <;> cases k <;> first | (exfalso; simp [rankJ] at hr; done) | skip
  case null.null => rw [show unJ .null = .mk 0 0 0 ByteArray.empty [] [] by unfold unJ; rfl, cmpP_0 5 rfl rfl]; unfold cmpJ; rfl
  case bool.bool a b => rw [show unJ (.bool a) = .mk 1 (if a then 1 else 0) 0 ByteArray.empty [] [] by unfold unJ; rfl, show unJ (.bool b) = .mk 1 (if b then 1 else 0) 0 ByteArray.empty [] [] by unfold unJ; rfl, cmpP_0 2 rfl rfl]; unfold cmpJ; cases a <;> cases b <;> rfl
  case int.int a b => rw [show unJ (.int a) = .mk 2 a 0 ByteArray.empty [] [] by unfold unJ; rfl, show unJ (.int b) = .mk 2 b 0 ByteArray.empty [] [] by unfold unJ; rfl, cmpP_0 0 rfl rfl, if_pos rfl, if_pos ⟨rfl, rfl⟩]; unfold cmpJ; rfl
  case int.flt a b => rw [show unJ (.int a) = .mk 2 a 0 ByteArray.empty [] [] by unfold unJ; rfl, show unJ (.flt b) = .mk 3 0 b ByteArray.empty [] [] by unfold unJ; rfl, cmpP_0 0 rfl rfl, if_pos rfl, if_neg (by decide), cmpFs_eq]; unfold cmpJ; rfl
  case flt.int a b => rw [show unJ (.int b) = .mk 2 b 0 ByteArray.empty [] [] by unfold unJ; rfl, show unJ (.flt a) = .mk 3 0 a ByteArray.empty [] [] by unfold unJ; rfl, cmpP_0 0 rfl rfl, if_pos rfl, if_neg (by decide), cmpFs_eq]; unfold cmpJ; rfl
  case flt.flt a b => rw [show unJ (.flt a) = .mk 3 0 a ByteArray.empty [] [] by unfold unJ; rfl, show unJ (.flt b) = .mk 3 0 b ByteArray.empty [] [] by unfold unJ; rfl, cmpP_0 0 rfl rfl, if_pos rfl, if_neg (by decide), cmpFs_eq]; unfold cmpJ; rfl
  case str.str a b => rw [show unJ (.str a) = .mk 4 0 0 a [] [] by unfold unJ; rfl, show unJ (.str b) = .mk 4 0 0 b [] [] by unfold unJ; rfl, cmpP_0 1 rfl rfl]; unfold cmpJ; rfl
  case list.list a b =>
    unfold JOk at hj hok
    rw [show unJ (.list a) = .mk 5 0 0 ByteArray.empty [] (unJs a) by unfold unJ; rfl, show unJ (.list b) = .mk 5 0 0 ByteArray.empty [] (unJs b) by unfold unJ; rfl, cmpP_0 3 rfl rfl, cmpJ_list]
    show cmpPl (unJs a) (unJs b) = _
    exact cmp_list b a (fun y hy x hx hy' => IH (SizeOf.sizeOf y) (by have := List.sizeOf_lt_of_mem hy; simp; omega) y rfl x hx hy') hj.2 hok.2
  case map.map m q =>
    unfold JOk at hj hok
    obtain ⟨ks, l, e1, hi, hl, hk, hg⟩ := unM_form hj.1
    obtain ⟨ks', l', e2, hi', hl', hk', hg'⟩ := unM_form hok.1
    rw [show unJ (.map m) = unM m gMap by unfold unJ; rfl, show unJ (.map q) = unM q gMap by unfold unJ; rfl, e1, e2, cmpP_0 4 rfl rfl, cmpJ_map]
    show cmpPm ks l ks' l' = _
    have len : ∀ {m : List (ByteArray × JV)} {ks : List ByteArray}, (m.map (·.1)).Nodup → Incr ks → (∀ k, k ∈ ks ↔ k ∈ m.map (·.1)) → ks.length = m.length := by
      intro m ks hm hi hk
      have h1 := nodup_len (incr_nd hi) (fun x hx => (hk x).1 hx)
      have h2 := nodup_len hm (fun x hx => (hk x).2 hx)
      simp only [List.length_map] at h1 h2
      omega
    have n1 := len hj.1 hi hk
    have n2 := len hok.1 hi' hk'
    have hz : ∀ {m : List (ByteArray × JV)} {ks : List ByteArray} {l : List GV}, ks.length = l.length → Incr ks → (∀ k x, (∃ i : Nat, ks[i]? = some k ∧ l[i]? = some x) ↔ ∃ j, getA m k = some j ∧ unJ j = x) → ∀ k z, getA (ks.zip l) k = some z ↔ ∃ x, lkJ m k = some x ∧ unJ x = z := fun hl hi hg k z => by
      rw [zip_idx hl hi, hg, lkJ_getA]
    have main := cmp_map ks l ks' l' (unionK m q) 0 m q hi hi' (unionK_incr m q) (fun k => by rw [unionK_mem, hk, hk']) hl hl' (by omega) (by omega) (fun k _ z => hz hl hi hg k z) (fun k _ z => hz hl' hi' hg' k z) (fun k x y hx hy => by
      rw [lkJ_getA] at hx hy
      have hy' := getA_mem hy
      refine IH (SizeOf.sizeOf y) ?_ y rfl x (JOkm_mem hj.2.2 _ (getA_mem hx)) (JOkm_mem hok.2.2 _ hy')
      have := List.sizeOf_lt_of_mem hy'
      simp at this ⊢
      omega)
    unfold cmpMs
    by_cases h0 : m.length = 0 ∧ q.length = 0
    · rw [if_pos h0]
      have e3 : ks = [] := List.eq_nil_of_length_eq_zero (by omega)
      have e4 : ks' = [] := List.eq_nil_of_length_eq_zero (by omega)
      subst e3 e4
      simp only [cmpPm]; rfl
    · rw [if_neg h0]; exact main
end Go.Proofs.Ytbbacpdbbmjblaa
end
section
set_option linter.unusedVariables false
namespace Go.Proofs.Ytbbacpdbbmjblaa
open Go.RowKit
set_option linter.unusedSimpArgs false
theorem ordV_p (x : GV) : PCall Try.prog 16 [qV x] (.val (.bool (ordV x))) := by
  have := pcall_V1s (P := Try.prog) (f := 16) (x := x) (u := .bool (ordV x)) trivial (fun w v hv => (ord_any x).use w v hv)
  rw [pdV_eq] at this
  exact this
theorem number_p (x : GV) : PCall Try.prog 81 [qV x] (.val (.bool (isNum x))) := by
  have := pcall_V1s (P := Try.prog) (f := 81) (x := x) (u := .bool (isNum x)) trivial (fun w v hv => number_any x w v hv)
  rw [pdV_eq] at this
  exact this
theorem fits_f {x : GV} (h : Fits (qV x)) : (Lit.float .f64 x.f).wf = true := by
  obtain ⟨w, F, v, hv⟩ := h.aggAt 2 (d := .val (.float .f64 x.f)) rfl
  unfold Rep at hv
  exact hv.2
theorem asFloat_p (x : GV) : PCall Try.prog 82 [qV x] (.val (.float .f64 (asF x))) := by
  refine pcall_fits fun hf => ?_
  have hx := fits_f (hf _ (List.mem_singleton.2 rfl))
  have := pcall_V1s (P := Try.prog) (f := 82) (x := x) (u := .float .f64 (asF x)) (by
    show (Lit.float .f64 (asF x)).wf = true
    unfold asF
    split
    · exact floatOfInt_wf _ _
    · exact hx) (fun w v hv => asFloat_any x w v hv)
  rw [pdV_eq] at this
  exact this
theorem clean_p (x : GV) : PCall Try.prog 52 [qV x] (qV (cleanV x)) := by
  have := pcall_V1V (P := Try.prog) (f := 52) (x := x) (y := cleanV x) (fun w v hv => (clean_any x).use w v hv)
  rw [pdV_eq, pdV_eq] at this
  exact this
mutual
/-- Two plain values are equal. -/
def eqP : GV → GV → Bool
  | .mk k n f s ks l, .mk k' n' f' s' ks' l' =>
    if (isNum (.mk k n f s ks l) && isNum (.mk k' n' f' s' ks' l')) = true then
      (if k = 2 ∧ k' = 2 then decide (n = n') else feq (asF (.mk k n f s ks l)) (asF (.mk k' n' f' s' ks' l')))
    else decide (k = k') && (decide (n = n') && (decide (s = s') && (decide (ks = ks') && eqPs l l')))
def eqPs : List GV → List GV → Bool
  | [], [] => true
  | x :: r, y :: q => eqP x y && eqPs r q
  | _, _ => false
end
theorem eqPs_len : ∀ {a b : List GV}, eqPs a b = true → a.length = b.length
  | [], [], _ => rfl
  | x :: r, y :: q, h => by
    unfold eqPs at h
    simp only [Bool.and_eq_true] at h
    simp [eqPs_len h.2]
  | [], _ :: _, h => by simp [eqPs] at h
  | _ :: _, [], h => by simp [eqPs] at h
theorem eqPs_true : ∀ {a b : List GV}, a.length = b.length → (∀ (i : Nat) (x y : GV), a[i]? = some x → b[i]? = some y → eqP x y = true) → eqPs a b = true
  | [], [], _, _ => by unfold eqPs; rfl
  | x :: r, y :: q, hl, h => by
    unfold eqPs
    rw [h 0 x y rfl rfl, eqPs_true (by simpa using hl) (fun i x y hx hy => h (i + 1) x y (by simpa using hx) (by simpa using hy))]
    rfl
  | [], _ :: _, hl, _ => by simp at hl
  | _ :: _, [], hl, _ => by simp at hl
theorem eqPs_false : ∀ {a b : List GV} {i : Nat} {x y : GV}, a[i]? = some x → b[i]? = some y → eqP x y = false → eqPs a b = false
  | x' :: r, y' :: q, 0, x, y, hx, hy, h => by
    simp only [List.getElem?_cons_zero, Option.some.injEq] at hx hy
    subst hx hy
    unfold eqPs
    rw [h]; rfl
  | x' :: r, y' :: q, i + 1, x, y, hx, hy, h => by
    unfold eqPs
    rw [eqPs_false (by simpa using hx) (by simpa using hy) h]
    simp
  | [], _, _, _, _, hx, _, _ => by simp at hx
  | _ :: _, [], _, _, _, _, hy, _ => by simp at hy
theorem eqPs_all {a b : List GV} (h : eqPs a b = true) (i : Nat) (x y : GV) (hx : a[i]? = some x) (hy : b[i]? = some y) : eqP x y = true := by
  cases e : eqP x y with
  | true => rfl
  | false => rw [eqPs_false hx hy e] at h; cases h
set_option maxHeartbeats 4000000 in
theorem eqP_num (x y : GV) (h : (isNum x && isNum y) = true) : PCall Try.prog 51 [qV x, qV y] (.val (.bool (eqP x y))) := by
  obtain ⟨k, n, f, s, ks, l⟩ := x
  obtain ⟨k', n', f', s', ks', l'⟩ := y
  have c1 := number_p (.mk k n f s ks l)
  have c2 := number_p (.mk k' n' f' s' ks' l')
  have c3 := asFloat_p (.mk k n f s ks l)
  have c4 := asFloat_p (.mk k' n' f' s' ks' l')
  have hn := h
  simp only [Bool.and_eq_true] at hn
  rw [hn.1] at c1
  rw [hn.2] at c2
  have e : eqP (.mk k n f s ks l) (.mk k' n' f' s' ks' l') = if k = 2 ∧ k' = 2 then decide (n = n') else feq (asF (.mk k n f s ks l)) (asF (.mk k' n' f' s' ks' l')) := by
    unfold eqP; rw [if_pos h]
  rw [e]
  clear e h hn
  generalize asF (.mk k n f s ks l) = A at *
  generalize asF (.mk k' n' f' s' ks' l') = B at *
  refine pcall_of_run Try.func51 rfl Try.ntmps51 rfl (fun X => ?_)
  by_cases hk : k = 2
  · have q1 : decide (k = 2) = true := by simpa using hk
    by_cases hk' : k' = 2
    · have q2 : decide (k' = 2) = true := by simpa using hk'
      rw [if_pos ⟨hk, hk'⟩]
      repeat' (first
    | refine run_seq ?_
    | (refine k_pick rfl ?_; first | refine k_assignD rfl rfl ?_ | refine k_moveD rfl rfl ?_ | refine k_fieldAddrB rfl rfl rfl ?_ | refine k_loadW rfl rfl rfl (by first | rfl | (simp only [cellsD]; rfl)) ?_ | refine k_loadBD rfl rfl rfl (by first | rfl | (simp only [cellsD]; rfl)) ?_ | refine k_bin2B rfl rfl rfl rfl ?_ | refine k_pickT rfl rfl (by first | rfl | assumption) rfl ?_ | refine k_boxW rfl rfl rfl (by first | rfl | (simp only [cellsD]; rfl)) ?_ | refine k_call rfl (by kernel_rfl) rfl (by first | exact c1 | exact c2 | exact c3 | exact c4) ?_)
    | refine run_opsEnd ?_
    | refine run_region ?_
    | refine run_condT rfl (by first | rfl | assumption) ?_
    | (refine k_guardY rfl rfl (by first | rfl | assumption) ?_; first | refine k_fieldAddrB rfl rfl rfl ?_ | refine k_loadW rfl rfl rfl (by first | rfl | (simp only [cellsD]; rfl)) ?_ | refine k_loadBD rfl rfl rfl (by first | rfl | (simp only [cellsD]; rfl)) ?_ | refine k_bin2B rfl rfl rfl rfl ?_ | refine k_call rfl (by kernel_rfl) rfl (by first | exact c1 | exact c2 | exact c3 | exact c4) ?_)
    | refine run_retOk (resOk_tmp rfl rfl ?_)
    | fail)
      all_goals exact PLe.refl _
    · have q2 : decide (k' = 2) = false := by simpa using hk'
      rw [if_neg (fun h => hk' h.2)]
      repeat' (first
    | refine run_seq ?_
    | (refine k_pick rfl ?_; first | refine k_assignD rfl rfl ?_ | refine k_moveD rfl rfl ?_ | refine k_fieldAddrB rfl rfl rfl ?_ | refine k_loadW rfl rfl rfl (by first | rfl | (simp only [cellsD]; rfl)) ?_ | refine k_loadBD rfl rfl rfl (by first | rfl | (simp only [cellsD]; rfl)) ?_ | refine k_bin2B rfl rfl rfl rfl ?_ | refine k_pickT rfl rfl (by first | rfl | assumption) rfl ?_ | refine k_boxW rfl rfl rfl (by first | rfl | (simp only [cellsD]; rfl)) ?_ | refine k_call rfl (by kernel_rfl) rfl (by first | exact c1 | exact c2 | exact c3 | exact c4) ?_)
    | refine run_opsEnd ?_
    | refine run_region ?_
    | refine run_condT rfl (by first | rfl | assumption) ?_
    | refine run_condF rfl (by first | rfl | assumption) ?_
    | (refine k_guardY rfl rfl (by first | rfl | assumption) ?_; first | refine k_fieldAddrB rfl rfl rfl ?_ | refine k_loadW rfl rfl rfl (by first | rfl | (simp only [cellsD]; rfl)) ?_ | refine k_loadBD rfl rfl rfl (by first | rfl | (simp only [cellsD]; rfl)) ?_ | refine k_bin2B rfl rfl rfl rfl ?_ | refine k_call rfl (by kernel_rfl) rfl (by first | exact c1 | exact c2 | exact c3 | exact c4) ?_)
    | refine run_skip ?_
    | refine run_retOk (resOk_tmp rfl rfl ?_)
    | refine run_drawC (by kernel_rfl) ?_
    | refine c_nil (And.intro (by kernel_rfl) ?_)
    | refine c_pick (d_assignD rfl rfl) ?_
    | refine c_pick (d_loadW rfl rfl rfl (by first | rfl | (simp only [cellsD]; rfl))) ?_
    | refine c_pick (d_call rfl (by kernel_rfl) rfl (by first | exact c1 | exact c2 | exact c3 | exact c4)) ?_
    | refine c_pick (d_fltC rfl rfl rfl rfl) ?_
    | fail)
      all_goals exact PLe.refl _
  · have q1 : decide (k = 2) = false := by simpa using hk
    rw [if_neg (fun h => hk h.1)]
    repeat' (first
    | refine run_seq ?_
    | (refine k_pick rfl ?_; first | refine k_assignD rfl rfl ?_ | refine k_moveD rfl rfl ?_ | refine k_fieldAddrB rfl rfl rfl ?_ | refine k_loadW rfl rfl rfl (by first | rfl | (simp only [cellsD]; rfl)) ?_ | refine k_loadBD rfl rfl rfl (by first | rfl | (simp only [cellsD]; rfl)) ?_ | refine k_bin2B rfl rfl rfl rfl ?_ | refine k_pickT rfl rfl (by first | rfl | assumption) rfl ?_ | refine k_pickF rfl rfl (by first | rfl | assumption) rfl ?_ | refine k_boxW rfl rfl rfl (by first | rfl | (simp only [cellsD]; rfl)) ?_ | refine k_call rfl (by kernel_rfl) rfl (by first | exact c1 | exact c2 | exact c3 | exact c4) ?_)
    | refine run_opsEnd ?_
    | refine run_region ?_
    | refine run_condT rfl (by first | rfl | assumption) ?_
    | refine run_condF rfl (by first | rfl | assumption) ?_
    | (refine k_guardY rfl rfl (by first | rfl | assumption) ?_; first | refine k_loadW rfl rfl rfl (by first | rfl | (simp only [cellsD]; rfl)) ?_ | refine k_call rfl (by kernel_rfl) rfl (by first | exact c1 | exact c2 | exact c3 | exact c4) ?_)
    | refine k_guardNT rfl rfl (by first | rfl | assumption) rfl ?_
    | refine run_skip ?_
    | refine run_retOk (resOk_tmp rfl rfl ?_)
    | refine run_drawC (by kernel_rfl) ?_
    | refine c_nil (And.intro (by kernel_rfl) ?_)
    | refine c_pick (d_assignD rfl rfl) ?_
    | refine c_pick (d_loadW rfl rfl rfl (by first | rfl | (simp only [cellsD]; rfl))) ?_
    | refine c_pick (d_call rfl (by kernel_rfl) rfl (by first | exact c1 | exact c2 | exact c3 | exact c4)) ?_
    | refine c_pick (d_fltC rfl rfl rfl rfl) ?_
    | fail)
    all_goals exact PLe.refl _
set_option maxHeartbeats 8000000 in
theorem eqP_oth (x y : GV) (h : (isNum x && isNum y) = false) (ih : ∀ a ∈ x.l, ∀ b ∈ y.l, PCall Try.prog 51 [qV a, qV b] (.val (.bool (eqP a b)))) : PCall Try.prog 51 [qV x, qV y] (.val (.bool (eqP x y))) := by
  obtain ⟨k, n, f, s, ks, l⟩ := x
  obtain ⟨k', n', f', s', ks', l'⟩ := y
  refine pcall_fits fun hfit => ?_
  have b1 := (Fits.aggAt (hfit (qV (.mk k n f s ks l)) (by simp)) 4 (d := .sl 1 16 (pdS ks)) rfl).sl.2.1
  have b2 := (Fits.aggAt (hfit (qV (.mk k n f s ks l)) (by simp)) 5 (d := .sl 6 88 (pdVs l)) rfl).sl.2.1
  rw [pdS_len] at b1
  rw [pdVs_len] at b2
  clear hfit
  have c1 := number_p (.mk k n f s ks l)
  have c2 := number_p (.mk k' n' f' s' ks' l')
  have e : eqP (.mk k n f s ks l) (.mk k' n' f' s' ks' l') = (decide (k = k') && (decide (n = n') && (decide (s = s') && (decide (ks = ks') && eqPs l l')))) := by
    unfold eqP; rw [if_neg (by rw [h]; simp)]
  rw [e]
  clear e
  have ih : ∀ a ∈ l, ∀ b ∈ l', PCall Try.prog 51 [qV a, qV b] (.val (.bool (eqP a b))) := ih
  generalize isNum (.mk k n f s ks l) = p1 at *
  generalize isNum (.mk k' n' f' s' ks' l') = p2 at *
  have hlk := pdS_len ks
  have hlk' := pdS_len ks'
  have hll := pdVs_len l
  have hll' := pdVs_len l'
  refine pcall_of_run Try.func51 rfl Try.ntmps51 rfl (fun X => ?_)
  by_cases e1 : k = k'
  rotate_left
  · have q1 : decide (k ≠ k') = true := by simpa using e1
    rw [show decide (k = k') = false by simpa using e1, Bool.false_and]
    cases p1 <;> cases p2 <;> first | cases h | skip
    all_goals
      repeat' (first
    | refine run_seq ?_
    | (refine k_pick rfl ?_; first | refine k_assignD rfl rfl ?_ | refine k_moveD rfl rfl ?_ | refine k_fieldAddrB rfl rfl rfl ?_ | refine k_loadW rfl rfl rfl (by first | rfl | (simp only [cellsD]; rfl)) ?_ | refine k_loadBD rfl rfl rfl (by first | rfl | (simp only [cellsD]; rfl)) ?_ | refine k_bin2B rfl rfl rfl rfl ?_ | refine k_pickT rfl rfl (by first | rfl | assumption) rfl ?_ | refine k_pickF rfl rfl (by first | rfl | assumption) rfl ?_ | refine k_boxW rfl rfl rfl (by first | rfl | (simp only [cellsD]; rfl)) ?_ | refine k_call rfl (by kernel_rfl) rfl (by first | exact c1 | exact c2) ?_)
    | refine run_opsEnd ?_
    | refine run_region ?_
    | refine run_condT rfl (by first | rfl | assumption) ?_
    | refine run_condF rfl (by first | rfl | assumption) ?_
    | (refine k_guardY rfl rfl (by first | rfl | assumption) ?_; first | refine k_loadW rfl rfl rfl (by first | rfl | (simp only [cellsD]; rfl)) ?_ | refine k_call rfl (by kernel_rfl) rfl (by first | exact c1 | exact c2) ?_)
    | refine k_guardNT rfl rfl (by first | rfl | assumption) rfl ?_
    | refine k_guardNF rfl rfl (by first | rfl | assumption) rfl ?_
    | refine run_skip ?_
    | refine run_retOk (resOk_tmp rfl rfl ?_)
    | fail)
    all_goals exact PLe.refl _
  have q1 : decide (k ≠ k') = false := by simpa using e1
  rw [show decide (k = k') = true by simpa using e1, Bool.true_and]
  by_cases e2 : n = n'
  rotate_left
  · have q2 : decide (n ≠ n') = true := by simpa using e2
    rw [show decide (n = n') = false by simpa using e2, Bool.false_and]
    cases p1 <;> cases p2 <;> first | cases h | skip
    all_goals
      repeat' (first
    | refine run_seq ?_
    | (refine k_pick rfl ?_; first | refine k_assignD rfl rfl ?_ | refine k_moveD rfl rfl ?_ | refine k_fieldAddrB rfl rfl rfl ?_ | refine k_loadW rfl rfl rfl (by first | rfl | (simp only [cellsD]; rfl)) ?_ | refine k_loadBD rfl rfl rfl (by first | rfl | (simp only [cellsD]; rfl)) ?_ | refine k_bin2B rfl rfl rfl rfl ?_ | refine k_pickT rfl rfl (by first | rfl | assumption) rfl ?_ | refine k_pickF rfl rfl (by first | rfl | assumption) rfl ?_ | refine k_boxW rfl rfl rfl (by first | rfl | (simp only [cellsD]; rfl)) ?_ | refine k_call rfl (by kernel_rfl) rfl (by first | exact c1 | exact c2) ?_)
    | refine run_opsEnd ?_
    | refine run_region ?_
    | refine run_condT rfl (by first | rfl | assumption) ?_
    | refine run_condF rfl (by first | rfl | assumption) ?_
    | (refine k_guardY rfl rfl (by first | rfl | assumption) ?_; first | refine k_fieldAddrB rfl rfl rfl ?_ | refine k_loadW rfl rfl rfl (by first | rfl | (simp only [cellsD]; rfl)) ?_ | refine k_loadBD rfl rfl rfl (by first | rfl | (simp only [cellsD]; rfl)) ?_ | refine k_bin2B rfl rfl rfl rfl ?_ | refine k_call rfl (by kernel_rfl) rfl (by first | exact c1 | exact c2) ?_)
    | refine k_guardNT rfl rfl (by first | rfl | assumption) rfl ?_
    | refine k_guardNF rfl rfl (by first | rfl | assumption) rfl ?_
    | refine run_skip ?_
    | refine run_retOk (resOk_tmp rfl rfl ?_)
    | fail)
    all_goals exact PLe.refl _
  have q2 : decide (n ≠ n') = false := by simpa using e2
  rw [show decide (n = n') = true by simpa using e2, Bool.true_and]
  by_cases e3 : s = s'
  rotate_left
  · have q3 : decide (s ≠ s') = true := by simpa using e3
    rw [show decide (s = s') = false by simpa using e3, Bool.false_and]
    cases p1 <;> cases p2 <;> first | cases h | skip
    all_goals
      repeat' (first
    | refine run_seq ?_
    | (refine k_pick rfl ?_; first | refine k_assignD rfl rfl ?_ | refine k_moveD rfl rfl ?_ | refine k_fieldAddrB rfl rfl rfl ?_ | refine k_loadW rfl rfl rfl (by first | rfl | (simp only [cellsD]; rfl)) ?_ | refine k_loadBD rfl rfl rfl (by first | rfl | (simp only [cellsD]; rfl)) ?_ | refine k_bin2B rfl rfl rfl rfl ?_ | refine k_pickT rfl rfl (by first | rfl | assumption) rfl ?_ | refine k_pickF rfl rfl (by first | rfl | assumption) rfl ?_ | refine k_boxW rfl rfl rfl (by first | rfl | (simp only [cellsD]; rfl)) ?_ | refine k_call rfl (by kernel_rfl) rfl (by first | exact c1 | exact c2) ?_)
    | refine run_opsEnd ?_
    | refine run_region ?_
    | refine run_condT rfl (by first | rfl | assumption) ?_
    | refine run_condF rfl (by first | rfl | assumption) ?_
    | (refine k_guardY rfl rfl (by first | rfl | assumption) ?_; first | refine k_fieldAddrB rfl rfl rfl ?_ | refine k_loadW rfl rfl rfl (by first | rfl | (simp only [cellsD]; rfl)) ?_ | refine k_loadBD rfl rfl rfl (by first | rfl | (simp only [cellsD]; rfl)) ?_ | refine k_bin2B rfl rfl rfl rfl ?_ | refine k_call rfl (by kernel_rfl) rfl (by first | exact c1 | exact c2) ?_)
    | refine k_guardNT rfl rfl (by first | rfl | assumption) rfl ?_
    | refine run_skip ?_
    | refine run_retOk (resOk_tmp rfl rfl ?_)
    | fail)
    all_goals exact PLe.refl _
  have q3 : decide (s ≠ s') = false := by simpa using e3
  rw [show decide (s = s') = true by simpa using e3, Bool.true_and]
  by_cases e4 : ks.length = ks'.length
  rotate_left
  · have q4 : decide ((((pdS ks).length : Nat) : Int) ≠ (((pdS ks').length : Nat) : Int)) = true := by rw [hlk, hlk']; simp; omega
    rw [show decide (ks = ks') = false by
      simp only [decide_eq_false_iff_not]; exact fun h => e4 (by rw [h]), Bool.false_and]
    cases p1 <;> cases p2 <;> first | cases h | skip
    all_goals
      repeat' (first
    | refine run_seq ?_
    | (refine k_pick rfl ?_; first | refine k_assignD rfl rfl ?_ | refine k_moveD rfl rfl ?_ | refine k_fieldAddrB rfl rfl rfl ?_ | refine k_loadW rfl rfl rfl (by first | rfl | (simp only [cellsD]; rfl)) ?_ | refine k_loadBD rfl rfl rfl (by first | rfl | (simp only [cellsD]; rfl)) ?_ | refine k_bin2B rfl rfl rfl rfl ?_ | refine k_pickT rfl rfl (by first | rfl | assumption) rfl ?_ | refine k_pickF rfl rfl (by first | rfl | assumption) rfl ?_ | refine k_boxW rfl rfl rfl (by first | rfl | (simp only [cellsD]; rfl)) ?_ | refine k_call rfl (by kernel_rfl) rfl (by first | exact c1 | exact c2) ?_ | refine k_lenD rfl rfl ?_)
    | refine run_opsEnd ?_
    | refine run_region ?_
    | refine run_condT rfl (by first | rfl | assumption) ?_
    | refine run_condF rfl (by first | rfl | assumption) ?_
    | (refine k_guardY rfl rfl (by first | rfl | assumption) ?_; first | refine k_fieldAddrB rfl rfl rfl ?_ | refine k_loadW rfl rfl rfl (by first | rfl | (simp only [cellsD]; rfl)) ?_ | refine k_loadBD rfl rfl rfl (by first | rfl | (simp only [cellsD]; rfl)) ?_ | refine k_bin2B rfl rfl rfl rfl ?_ | refine k_call rfl (by kernel_rfl) rfl (by first | exact c1 | exact c2) ?_)
    | refine k_guardNT rfl rfl (by first | rfl | assumption) rfl ?_
    | refine k_guardNF rfl rfl (by first | rfl | assumption) rfl ?_
    | refine run_skip ?_
    | refine run_retOk (resOk_tmp rfl rfl ?_)
    | fail)
    all_goals exact PLe.refl _
  have q4 : decide ((((pdS ks).length : Nat) : Int) ≠ (((pdS ks').length : Nat) : Int)) = false := by rw [hlk, hlk']; simp; omega
  by_cases e5 : l.length = l'.length
  rotate_left
  · have q5 : decide ((((pdVs l).length : Nat) : Int) ≠ (((pdVs l').length : Nat) : Int)) = true := by rw [hll, hll']; simp; omega
    rw [show eqPs l l' = false by
      cases h : eqPs l l' with
      | false => rfl
      | true => exact absurd (eqPs_len h) e5, Bool.and_false]
    cases p1 <;> cases p2 <;> first | cases h | skip
    all_goals
      repeat' (first
    | refine run_seq ?_
    | (refine k_pick rfl ?_; first | refine k_assignD rfl rfl ?_ | refine k_moveD rfl rfl ?_ | refine k_fieldAddrB rfl rfl rfl ?_ | refine k_loadW rfl rfl rfl (by first | rfl | (simp only [cellsD]; rfl)) ?_ | refine k_loadBD rfl rfl rfl (by first | rfl | (simp only [cellsD]; rfl)) ?_ | refine k_bin2B rfl rfl rfl rfl ?_ | refine k_pickT rfl rfl (by first | rfl | assumption) rfl ?_ | refine k_pickF rfl rfl (by first | rfl | assumption) rfl ?_ | refine k_boxW rfl rfl rfl (by first | rfl | (simp only [cellsD]; rfl)) ?_ | refine k_call rfl (by kernel_rfl) rfl (by first | exact c1 | exact c2) ?_ | refine k_lenD rfl rfl ?_)
    | refine run_opsEnd ?_
    | refine run_region ?_
    | refine run_condT rfl (by first | rfl | assumption) ?_
    | refine run_condF rfl (by first | rfl | assumption) ?_
    | (refine k_guardY rfl rfl (by first | rfl | assumption) ?_; first | refine k_fieldAddrB rfl rfl rfl ?_ | refine k_loadW rfl rfl rfl (by first | rfl | (simp only [cellsD]; rfl)) ?_ | refine k_loadBD rfl rfl rfl (by first | rfl | (simp only [cellsD]; rfl)) ?_ | refine k_bin2B rfl rfl rfl rfl ?_ | refine k_call rfl (by kernel_rfl) rfl (by first | exact c1 | exact c2) ?_ | refine k_lenD rfl rfl ?_)
    | refine k_guardNT rfl rfl (by first | rfl | assumption) rfl ?_
    | refine run_skip ?_
    | refine run_retOk (resOk_tmp rfl rfl ?_)
    | fail)
    all_goals exact PLe.refl _
  have q5 : decide ((((pdVs l).length : Nat) : Int) ≠ (((pdVs l').length : Nat) : Int)) = false := by rw [hll, hll']; simp; omega
  refine run_weaken (s' := startSta [qV (.mk k n f s ks l), qV (.mk k' n' f' s' ks' l')]) (fun _ _ h => h) ?_
  cases p1 <;> cases p2 <;> first | cases h | skip
  all_goals
    repeat' (first
    | refine run_seq ?_
    | (refine k_pick rfl ?_; first | refine k_assignD rfl rfl ?_ | refine k_moveD rfl rfl ?_ | refine k_fieldAddrB rfl rfl rfl ?_ | refine k_loadW rfl rfl rfl (by first | rfl | (simp only [cellsD]; rfl)) ?_ | refine k_loadBD rfl rfl rfl (by first | rfl | (simp only [cellsD]; rfl)) ?_ | refine k_bin2B rfl rfl rfl rfl ?_ | refine k_pickT rfl rfl (by first | rfl | assumption) rfl ?_ | refine k_pickF rfl rfl (by first | rfl | assumption) rfl ?_ | refine k_boxW rfl rfl rfl (by first | rfl | (simp only [cellsD]; rfl)) ?_ | refine k_call rfl (by kernel_rfl) rfl (by first | exact c1 | exact c2) ?_ | refine k_lenD rfl rfl ?_)
    | refine run_opsEnd ?_
    | refine run_region ?_
    | refine run_condF rfl (by first | rfl | assumption) ?_
    | (refine k_guardY rfl rfl (by first | rfl | assumption) ?_; first | refine k_fieldAddrB rfl rfl rfl ?_ | refine k_loadW rfl rfl rfl (by first | rfl | (simp only [cellsD]; rfl)) ?_ | refine k_loadBD rfl rfl rfl (by first | rfl | (simp only [cellsD]; rfl)) ?_ | refine k_bin2B rfl rfl rfl rfl ?_ | refine k_call rfl (by kernel_rfl) rfl (by first | exact c1 | exact c2) ?_ | refine k_lenD rfl rfl ?_)
    | refine k_guardNT rfl rfl (by first | rfl | assumption) rfl ?_
    | refine run_block ?_
    | refine run_skip ?_
    | fail)
    refine run_loopS (ι := { j : Nat // j ≤ ks.length ∧ ∀ i, i < j → ks[i]? = ks'[i]? })
      (fun j => [(2, .ptr 2 0), (3, .ptr 3 0), (68, .dat (.val (.int .i64 ((pdS ks).length : Nat)))), (69, .dat (.val (.int .i64 (j.1 : Nat))))])
      (fun j => [(2, .box 43 (cellsD (qV (.mk k n f s ks l)))), (3, .box 43 (cellsD (qV (.mk k' n' f' s' ks' l'))))]) (fun j => ks.length - j.1) ⟨0, Nat.zero_le _, fun i h => absurd h (Nat.not_lt_zero i)⟩ id ?_ ?_
    · (refine ⟨?_, ?_, by rfl⟩ <;> repeat' (first | exact trivial | exact ALe.ptr rfl | exact ALe.own rfl | exact ALe.elt rfl | exact BLe.boxD _ _ | exact BLe.row rfl | exact BLe.res | exact BLe.dead rfl | exact ALe.dat (PLe.refl _) | exact CLe.nil | refine And.intro ?_ ?_ | refine ALe.iface ?_ | refine ALe.clo ?_ | refine CLe.cons ?_ ?_ | refine BLe.box ?_ | refine BLe.row ?_ | exact ALe.any _ | refine ALe.dat (PLe.of_eq ?_)))
    rintro ⟨j, hj, hall⟩
    by_cases hlt : j < ks.length
    · have hc : decide ((j : Int) < (((pdS ks).length : Nat) : Int)) = true := by rw [hlk]; simpa using hlt
      obtain ⟨x, hx⟩ : ∃ x, ks[j]? = some x := ⟨_, List.getElem?_eq_getElem hlt⟩
      obtain ⟨y, hy⟩ : ∃ y, ks'[j]? = some y := ⟨_, List.getElem?_eq_getElem (e4 ▸ hlt)⟩
      have i1 : (pdS ks)[((j : Nat) : Int).toNat]? = some (.val (.string x)) := pdS_at hx
      have i2 : (pdS ks')[((j : Nat) : Int).toNat]? = some (.val (.string y)) := pdS_at hy
      by_cases exy : x = y
      · have q6 : decide (x ≠ y) = false := by simpa using exy
        repeat' (first
    | refine run_seq ?_
    | (refine k_pick rfl ?_; first | refine k_assignD rfl rfl ?_ | refine k_moveD rfl rfl ?_ | refine k_bin2B rfl rfl rfl rfl ?_ | refine k_ariI rfl rfl rfl rfl (by first | omega | (dsimp only; omega)) ?_)
    | refine run_opsEnd ?_
    | refine run_region ?_
    | refine run_condT rfl (by first | rfl | assumption) ?_
    | refine run_condF rfl (by first | rfl | assumption) ?_
    | refine run_block ?_
    | refine run_blkEnd ?_
    | refine run_skip ?_
    | refine run_drawC (by kernel_rfl) ?_
    | refine c_nil (And.intro (by kernel_rfl) ?_)
    | refine c_pick (d_indexAddrD rfl rfl rfl (by first | omega | (dsimp only; omega)) (by assumption)) ?_
    | refine c_pick (d_moveD rfl rfl) ?_
    | refine c_pick (d_fieldAddrB rfl rfl rfl) ?_
    | refine c_pick (d_loadBD rfl rfl rfl (by first | rfl | (simp only [cellsD]; rfl))) ?_
    | refine c_pick (d_bin2B rfl rfl rfl rfl) ?_
    | refine c_pick (d_loadD rfl rfl (by first | rfl | (simp only [cellsD]; rfl))) ?_
    | fail)
        refine run_again ?_
        refine ⟨⟨j + 1, by omega, fun i hi => ?_⟩, id, by simp only; omega, ?_⟩
        · by_cases e : i = j
          · subst e; rw [hx, hy, exy]
          · exact hall i (by omega)
        (refine ⟨?_, ?_, by rfl⟩ <;> repeat' (first | exact trivial | exact ALe.ptr rfl | exact ALe.own rfl | exact ALe.elt rfl | exact BLe.boxD _ _ | exact BLe.row rfl | exact BLe.res | exact BLe.dead rfl | exact ALe.dat (PLe.refl _) | exact CLe.nil | refine And.intro ?_ ?_ | refine ALe.iface ?_ | refine ALe.clo ?_ | refine CLe.cons ?_ ?_ | refine BLe.box ?_ | refine BLe.row ?_ | exact ALe.any _ | refine ALe.dat (PLe.of_eq ?_)))
      · have q6 : decide (x ≠ y) = true := by simpa using exy
        rw [show decide (ks = ks') = false by
          simp only [decide_eq_false_iff_not]
          intro h; rw [h] at hx; rw [hx] at hy; exact exy (Option.some.inj hy), Bool.false_and]
        repeat' (first
    | refine run_seq ?_
    | (refine k_pick rfl ?_; first | refine k_assignD rfl rfl ?_ | refine k_moveD rfl rfl ?_ | refine k_bin2B rfl rfl rfl rfl ?_)
    | refine run_opsEnd ?_
    | refine run_region ?_
    | refine run_condT rfl (by first | rfl | assumption) ?_
    | refine run_block ?_
    | refine run_skip ?_
    | refine run_retOk (resOk_tmp rfl rfl ?_)
    | refine run_drawC (by kernel_rfl) ?_
    | refine c_nil (And.intro (by kernel_rfl) ?_)
    | refine c_pick (d_indexAddrD rfl rfl rfl (by first | omega | (dsimp only; omega)) (by assumption)) ?_
    | refine c_pick (d_moveD rfl rfl) ?_
    | refine c_pick (d_fieldAddrB rfl rfl rfl) ?_
    | refine c_pick (d_loadBD rfl rfl rfl (by first | rfl | (simp only [cellsD]; rfl))) ?_
    | refine c_pick (d_bin2B rfl rfl rfl rfl) ?_
    | refine c_pick (d_loadD rfl rfl (by first | rfl | (simp only [cellsD]; rfl))) ?_
    | fail)
        all_goals exact PLe.refl _
    · have hc : decide ((j : Int) < (((pdS ks).length : Nat) : Int)) = false := by rw [hlk]; simpa using hlt
      have ek : ks = ks' := by
        apply List.ext_getElem? 
        intro i
        by_cases hi : i < ks.length
        · exact hall i (by omega)
        · rw [List.getElem?_eq_none (by omega), List.getElem?_eq_none (by omega)]
      rw [show decide (ks = ks') = true by simpa using ek, Bool.true_and]
      repeat' (first
    | refine run_seq ?_
    | (refine k_pick rfl ?_; first | refine k_moveD rfl rfl ?_ | refine k_fieldAddrB rfl rfl rfl ?_ | refine k_loadBD rfl rfl rfl (by first | rfl | (simp only [cellsD]; rfl)) ?_ | refine k_bin2B rfl rfl rfl rfl ?_ | refine k_lenD rfl rfl ?_)
    | refine run_opsEnd ?_
    | refine run_region ?_
    | refine run_condF rfl (by first | rfl | assumption) ?_
    | refine run_block ?_
    | refine run_exit rfl ?_
    | fail)
      refine run_loopS (ι := { j : Nat // j ≤ l.length ∧ ∀ i x y, i < j → l[i]? = some x → l'[i]? = some y → eqP x y = true })
        (fun j => [(2, .ptr 2 0), (3, .ptr 3 0), (86, .dat (.val (.int .i64 ((pdVs l).length : Nat)))), (87, .dat (.val (.int .i64 (j.1 : Nat))))])
        (fun j => [(2, .box 43 (cellsD (qV (.mk k n f s ks l)))), (3, .box 43 (cellsD (qV (.mk k' n' f' s' ks' l'))))]) (fun j => l.length - j.1) ⟨0, Nat.zero_le _, fun i _ _ h => absurd h (Nat.not_lt_zero i)⟩ id ?_ ?_
      · (refine ⟨?_, ?_, by rfl⟩ <;> repeat' (first | exact trivial | exact ALe.ptr rfl | exact ALe.own rfl | exact ALe.elt rfl | exact BLe.boxD _ _ | exact BLe.row rfl | exact BLe.res | exact BLe.dead rfl | exact ALe.dat (PLe.refl _) | exact CLe.nil | refine And.intro ?_ ?_ | refine ALe.iface ?_ | refine ALe.clo ?_ | refine CLe.cons ?_ ?_ | refine BLe.box ?_ | refine BLe.row ?_ | exact ALe.any _ | refine ALe.dat (PLe.of_eq ?_)))
      clear hall hj hc hlt
      rintro ⟨j, hj, hall⟩
      by_cases hlt : j < l.length
      · have hc : decide ((j : Int) < (((pdVs l).length : Nat) : Int)) = true := by rw [hll]; simpa using hlt
        obtain ⟨x, hx⟩ : ∃ x, l[j]? = some x := ⟨_, List.getElem?_eq_getElem hlt⟩
        obtain ⟨y, hy⟩ : ∃ y, l'[j]? = some y := ⟨_, List.getElem?_eq_getElem (e5 ▸ hlt)⟩
        have i1 : (pdVs l)[((j : Nat) : Int).toNat]? = some (qV x) := by rw [show qV x = pdV x from (pdV_eq x).symm]; exact pdVs_at hx
        have i2 : (pdVs l')[((j : Nat) : Int).toNat]? = some (qV y) := by rw [show qV y = pdV y from (pdV_eq y).symm]; exact pdVs_at hy
        have hC := ih x (List.mem_of_getElem? hx) y (List.mem_of_getElem? hy)
        cases hr : eqP x y with
        | true =>
          rw [hr] at hC
          repeat' (first
    | refine run_seq ?_
    | (refine k_pick rfl ?_; first | refine k_assignD rfl rfl ?_ | refine k_moveD rfl rfl ?_ | refine k_bin2B rfl rfl rfl rfl ?_ | refine k_ariI rfl rfl rfl rfl (by first | omega | (dsimp only; omega)) ?_)
    | refine run_opsEnd ?_
    | refine run_region ?_
    | refine run_condT rfl (by first | rfl | assumption) ?_
    | refine run_condF rfl (by first | rfl | assumption) ?_
    | refine run_block ?_
    | refine run_blkEnd ?_
    | refine run_skip ?_
    | refine run_drawC (by kernel_rfl) ?_
    | refine c_nil (And.intro (by kernel_rfl) ?_)
    | refine c_pick (d_indexAddrD rfl rfl rfl (by first | omega | (dsimp only; omega)) (by assumption)) ?_
    | refine c_pick (d_moveD rfl rfl) ?_
    | refine c_pick (d_fieldAddrB rfl rfl rfl) ?_
    | refine c_pick (d_loadBD rfl rfl rfl (by first | rfl | (simp only [cellsD]; rfl))) ?_
    | refine c_pick (d_call rfl (by kernel_rfl) rfl (by first | exact hC)) ?_
    | refine c_pick (d_not rfl rfl) ?_
    | refine c_pick (d_loadD rfl rfl (by first | rfl | (simp only [cellsD]; rfl))) ?_
    | fail)
          refine run_again ?_
          refine ⟨⟨j + 1, by omega, fun i x' y' hi hx' hy' => ?_⟩, id, by simp only; omega, ?_⟩
          · by_cases e : i = j
            · subst e
              rw [hx] at hx'; rw [hy] at hy'
              cases hx'; cases hy'
              exact hr
            · exact hall i x' y' (by omega) hx' hy'
          (refine ⟨?_, ?_, by rfl⟩ <;> repeat' (first | exact trivial | exact ALe.ptr rfl | exact ALe.own rfl | exact ALe.elt rfl | exact BLe.boxD _ _ | exact BLe.row rfl | exact BLe.res | exact BLe.dead rfl | exact ALe.dat (PLe.refl _) | exact CLe.nil | refine And.intro ?_ ?_ | refine ALe.iface ?_ | refine ALe.clo ?_ | refine CLe.cons ?_ ?_ | refine BLe.box ?_ | refine BLe.row ?_ | exact ALe.any _ | refine ALe.dat (PLe.of_eq ?_)))
        | false =>
          rw [hr] at hC
          rw [eqPs_false hx hy hr]
          repeat' (first
    | refine run_seq ?_
    | (refine k_pick rfl ?_; first | refine k_assignD rfl rfl ?_ | refine k_moveD rfl rfl ?_ | refine k_bin2B rfl rfl rfl rfl ?_)
    | refine run_opsEnd ?_
    | refine run_region ?_
    | refine run_condT rfl (by first | rfl | assumption) ?_
    | refine run_block ?_
    | refine run_skip ?_
    | refine run_retOk (resOk_tmp rfl rfl ?_)
    | refine run_drawC (by kernel_rfl) ?_
    | refine c_nil (And.intro (by kernel_rfl) ?_)
    | refine c_pick (d_indexAddrD rfl rfl rfl (by first | omega | (dsimp only; omega)) (by assumption)) ?_
    | refine c_pick (d_moveD rfl rfl) ?_
    | refine c_pick (d_fieldAddrB rfl rfl rfl) ?_
    | refine c_pick (d_loadBD rfl rfl rfl (by first | rfl | (simp only [cellsD]; rfl))) ?_
    | refine c_pick (d_call rfl (by kernel_rfl) rfl (by first | exact hC)) ?_
    | refine c_pick (d_not rfl rfl) ?_
    | refine c_pick (d_loadD rfl rfl (by first | rfl | (simp only [cellsD]; rfl))) ?_
    | fail)
          all_goals exact PLe.refl _
      · have hc : decide ((j : Int) < (((pdVs l).length : Nat) : Int)) = false := by rw [hll]; simpa using hlt
        rw [eqPs_true e5 (fun i x y hx hy => hall i x y (by have := (List.getElem?_eq_some_iff.1 hx).1; omega) hx hy)]
        repeat' (first
    | refine run_seq ?_
    | (refine k_pick rfl ?_; first | refine k_assignD rfl rfl ?_ | refine k_bin2B rfl rfl rfl rfl ?_)
    | refine run_opsEnd ?_
    | refine run_region ?_
    | refine run_condF rfl (by first | rfl | assumption) ?_
    | refine run_exit rfl ?_
    | refine run_retOk (resOk_tmp rfl rfl ?_)
    | fail)
        all_goals exact PLe.refl _
theorem eqP_p : ∀ (x y : GV), PCall Try.prog 51 [qV x, qV y] (.val (.bool (eqP x y)))
  | .mk k n f s ks l, y => by
    cases h : isNum (.mk k n f s ks l) && isNum y with
    | true => exact eqP_num _ _ h
    | false => exact eqP_oth _ _ h (fun a ha b _ => eqP_p a b)
termination_by x => SizeOf.sizeOf x
decreasing_by
  simp_wf
  have ha : a ∈ l := ha
  have := List.sizeOf_lt_of_mem ha
  omega
theorem eqSpec_p (x y : GV) : PCall Try.prog 18 [qV x, qV y] (.val (.bool (eqP (cleanV x) (cleanV y)))) := by
  have c1 := clean_p x
  have c2 := clean_p y
  have c3 := eqP_p (cleanV x) (cleanV y)
  refine pcall_of_run Try.func18 rfl Try.ntmps18 rfl (fun X => ?_)
  repeat' (first
    | refine run_seq ?_
    | (refine k_pick rfl ?_; first | refine k_assignD rfl rfl ?_ | refine k_boxW rfl rfl rfl (by first | rfl | (simp only [cellsD]; rfl)) ?_)
    | refine run_opsEnd ?_
    | refine run_region ?_
    | refine run_retOk (resOk_tmp rfl rfl ?_)
    | refine run_drawC (by kernel_rfl) ?_
    | refine c_nil (And.intro (by kernel_rfl) ?_)
    | refine c_pick (d_assignD rfl rfl) ?_
    | refine c_pick (d_loadW rfl rfl rfl (by first | rfl | (simp only [cellsD]; rfl))) ?_
    | refine c_pick (d_call rfl (by kernel_rfl) rfl (by first | exact c1 | exact c2 | exact c3)) ?_
    | fail)
  all_goals exact PLe.refl _
end Go.Proofs.Ytbbacpdbbmjblaa
end
section
set_option linter.unusedVariables false
namespace Go.Proofs.Ytbbacpdbbmjblaa
open Go.RowKit
set_option linter.unusedSimpArgs false
theorem PlG_un : ∀ j : JV, JOk j → PlG (unJ j) := by
  intro j
  induction hk : SizeOf.sizeOf j using Nat.strongRecOn generalizing j with
  | _ n IH =>
  subst hk
  intro hj
  cases j with
  | list l =>
    unfold JOk at hj
    rw [show unJ (.list l) = .mk 5 0 0 ByteArray.empty [] (unJs l) by unfold unJ; rfl]
    unfold PlG
    refine ⟨by simp, ?_⟩
    have : ∀ (r : List JV), (∀ y ∈ r, y ∈ l) → JOks r → PlGs (unJs r) := by
      intro r
      induction r with
      | nil => intro _ _; simp only [unJs, PlGs]
      | cons x r ih =>
        intro h hr
        simp only [JOks] at hr
        simp only [unJs, PlGs]
        exact ⟨IH (SizeOf.sizeOf x) (by have := List.sizeOf_lt_of_mem (h x (by simp)); simp; omega) x rfl hr.1, ih (fun y hy => h y (by simp [hy])) hr.2⟩
    exact this l (fun _ h => h) hj.2
  | map m =>
    unfold JOk at hj
    obtain ⟨ks, l, e, hi, hl, hk, hg⟩ := unM_form hj.1
    rw [show unJ (.map m) = unM m gMap by unfold unJ; rfl, e]
    unfold PlG
    refine ⟨by omega, ?_⟩
    have key : ∀ x ∈ l, PlG x := by
      intro x hx
      obtain ⟨i, hi⟩ := List.getElem?_of_mem hx
      have hil := (List.getElem?_eq_some_iff.1 hi).1
      obtain ⟨k, hkk⟩ : ∃ k, ks[i]? = some k := ⟨_, List.getElem?_eq_getElem (by omega)⟩
      obtain ⟨j, hj1, hj2⟩ := (hg k x).1 ⟨i, hkk, hi⟩
      rw [← hj2]
      have hm := getA_mem hj1
      refine IH (SizeOf.sizeOf j) ?_ j rfl (JOkm_mem hj.2.2 _ hm)
      have := List.sizeOf_lt_of_mem hm
      simp at this ⊢
      omega
    clear hg hl e
    induction l with
    | nil => simp only [PlGs]
    | cons x r ih => simp only [PlGs]; exact ⟨key x (by simp), ih (fun y hy => key y (by simp [hy]))⟩
  | null => rw [show unJ .null = .mk 0 0 0 ByteArray.empty [] [] by unfold unJ; rfl]; unfold PlG; exact ⟨by simp, by simp only [PlGs]⟩
  | bool b => rw [show unJ (.bool b) = .mk 1 (if b then 1 else 0) 0 ByteArray.empty [] [] by unfold unJ; rfl]; unfold PlG; exact ⟨by simp, by simp only [PlGs]⟩
  | int b => rw [show unJ (.int b) = .mk 2 b 0 ByteArray.empty [] [] by unfold unJ; rfl]; unfold PlG; exact ⟨by simp, by simp only [PlGs]⟩
  | flt b => rw [show unJ (.flt b) = .mk 3 0 b ByteArray.empty [] [] by unfold unJ; rfl]; unfold PlG; exact ⟨by simp, by simp only [PlGs]⟩
  | str b => rw [show unJ (.str b) = .mk 4 0 0 b [] [] by unfold unJ; rfl]; unfold PlG; exact ⟨by simp, by simp only [PlGs]⟩
theorem PlG_clean {x : GV} (h : Fits (qV x)) : PlG (cleanV x) := by
  obtain ⟨w0, F0, v0, h0⟩ := h
  rw [← un_plain]
  exact PlG_un _ (plain_ok x (IsV.gok x (rep_isV x (by rw [pdV_eq]; exact h0))))
theorem sCmpVals_p (x y : GV) : PCall Try.prog 32 [qV x, qV y] (.val (.int .i64 (cmpP (cleanV x) (cleanV y)))) := by
  refine pcall_fits fun hf => ?_
  have c3 := sPlain_p (cleanV x) (cleanV y) (PlG_clean (hf (qV x) (by simp))) (PlG_clean (hf (qV y) (by simp)))
  clear hf
  have c1 := clean_p x
  have c2 := clean_p y
  generalize cleanV x = x' at *
  generalize cleanV y = y' at *
  refine pcall_of_run Try.func32 rfl Try.ntmps32 rfl (fun X => ?_)
  repeat' (first
    | refine run_seq ?_
    | (refine k_pick rfl ?_; first | refine k_assignD rfl rfl ?_ | refine k_boxW rfl rfl rfl (by first | rfl | (simp only [cellsD]; rfl)) ?_)
    | refine run_opsEnd ?_
    | refine run_region ?_
    | refine run_retOk (resOk_tmp rfl rfl ?_)
    | refine run_drawC (by kernel_rfl) ?_
    | refine c_nil (And.intro (by kernel_rfl) ?_)
    | refine c_pick (d_assignD rfl rfl) ?_
    | refine c_pick (d_loadW rfl rfl rfl (by first | rfl | (simp only [cellsD]; rfl))) ?_
    | refine c_pick (d_call rfl (by kernel_rfl) rfl (by first | exact c1 | exact c2 | exact c3)) ?_
    | fail)
  all_goals exact PLe.refl _
instance : MI Try.prog 139 "AsList" 138 (some 173) := ⟨by kernel_rfl⟩
theorem asListO_p (l : List JV) : PCall Try.prog 138 [.agg [pdJ (.list l)]] (dvL l) := by
  refine pcall_of_run Try.func138 rfl Try.ntmps138 rfl (fun X => ?_)
  repeat' (first
    | refine run_seq ?_
    | (refine k_pick rfl ?_; first | refine k_assignD rfl rfl ?_ | refine k_loadW rfl rfl rfl (by first | rfl | (simp only [cellsD]; rfl)) ?_ | refine k_boxW rfl rfl rfl (by first | rfl | (simp only [cellsD]; rfl)) ?_ | refine k_build rfl rfl rfl ?_ | refine k_ifaceP rfl rfl (by kernel_rfl) ?_)
    | refine run_opsEnd ?_
    | refine run_region ?_
    | fail)
  refine run_frz (fun t => Nat.beq t 133) (fun k => Nat.beq k 5) ?_
  repeat' (first
    | (refine k_pick rfl ?_; first | refine k_assignD rfl rfl ?_ | refine k_call rfl (by kernel_rfl) rfl (by first | exact asList_p l) ?_)
    | refine run_opsEnd ?_
    | refine run_retOk (resOk_tmp rfl rfl ?_)
    | fail)
  all_goals exact PLe.refl _
theorem pcall_arg0' {P : Program} {f : FuncId} {d d' r : PD} {ds : List PD} (hle : PLe d d') (h : PCall P f (d' :: ds) r) : PCall P f (d :: ds) r := by
  intro w F vs hF hv
  refine h w F vs hF ?_
  unfold Reps at hv ⊢
  obtain ⟨v, r', e, h1, h2⟩ := hv
  exact ⟨v, r', e, hle _ _ _ h1, h2⟩
theorem PLs_list (l : List GV) (k : Int) : PLe (.agg [.val (.int .i64 k), .val (.int .i64 0), .val (.float .f64 0), .val (.string ⟨#[]⟩), .val (.slice none 0 0), .sl 6 88 (pdVs l)]) (qV (.mk k 0 0 ByteArray.empty [] l)) := by
  refine PLe.aggs ⟨PLe.refl _, PLe.refl _, PLe.refl _, PLe.refl _, ?_, PLe.refl _, trivial⟩
  show PLe _ (.sl 1 16 (pdS []))
  unfold pdS
  exact PLe.nil 1 16
theorem toList_p (l : List GV) : PCall Try.prog 58 [.sl 6 88 (pdVs l)] (dvL (plainJs l)) := by
  have c1 := pcall_arg0' (PLs_list l 5) (toValue_p (.mk 5 0 0 ByteArray.empty [] l))
  have e : plainJ (.mk 5 0 0 ByteArray.empty [] l) = .list (plainJs l) := by unfold plainJ; rfl
  rw [e] at c1
  have c2 := asListO_p (plainJs l)
  generalize plainJs l = l' at *
  refine pcall_of_run Try.func58 rfl Try.ntmps58 rfl (fun X => ?_)
  repeat' (first
    | refine run_seq ?_
    | (refine k_pick rfl ?_; first | refine k_assignD rfl rfl ?_ | refine k_moveD rfl rfl ?_ | refine k_call rfl (by kernel_rfl) rfl (by first | exact c1 | exact c2) ?_ | refine k_build rfl rfl rfl ?_ | refine k_invD rfl rfl rfl (by kernel_rfl) rfl (by first | exact c1 | exact c2) ?_)
    | refine run_opsEnd ?_
    | refine run_region ?_
    | refine run_retOk (resOk_tmp rfl rfl ?_)
    | fail)
  all_goals exact PLe.refl _
theorem pdVs_app : ∀ (a b : List GV), pdVs a ++ pdVs b = pdVs (a ++ b)
  | [], b => by simp [pdVs]
  | x :: r, b => by simp [pdVs, pdVs_app r b]
theorem joined_p (a b : List GV) (ha : (a.length + b.length) * 88 ≤ 140737488351232) : PCall Try.prog 31 [.sl 6 88 (pdVs a), .sl 6 88 (pdVs b)] (.sl 6 88 (pdVs (a ++ b))) := by
  refine pcall_of_run Try.func31 rfl Try.ntmps31 rfl (fun X => ?_)
  repeat' (first
    | refine run_seq ?_
    | (refine k_pick rfl ?_; first | refine k_appendOD rfl rfl rfl rfl rfl (by kernel_rfl) rfl rfl (by simp only [List.length_append, List.length_nil, pdVs_len]; omega) (by simp only [List.length_append, List.length_nil, pdVs_len]; omega) ?_ | refine k_assignD rfl rfl ?_ | refine k_moveD rfl rfl ?_ | refine k_assignO rfl rfl ?_ | refine k_buildSlice rfl rfl (by kernel_rfl) rfl rfl rfl rfl rfl ?_)
    | refine run_opsEnd ?_
    | refine run_region ?_
    | fail)
  refine run_frz (fun _ => false) (fun k => Nat.beq k 9) ?_
  refine run_retOk (resOk_tmp rfl rfl (PLe.of_eq ?_))
  rw [List.nil_append, pdVs_app]
theorem list_p (l : List GV) : PCall Try.prog 28 [.sl 6 88 (pdVs l)] (qV (.mk 5 0 0 ByteArray.empty [] l)) := by
  refine pcall_of_run Try.func28 rfl Try.ntmps28 rfl (fun X => ?_)
  repeat' (first
    | refine run_seq ?_
    | (refine k_pick rfl ?_; first | refine k_moveD rfl rfl ?_ | refine k_storeB rfl rfl rfl rfl rfl ?_ | refine k_alloc rfl rfl ?_ | refine k_build rfl rfl rfl ?_)
    | refine run_opsEnd ?_
    | refine run_region ?_
    | refine run_retOk (resOk_cell rfl rfl rfl (by first | rfl | (simp only [cellsD]; rfl)) ?_)
    | fail)
  all_goals exact PLs_list l 5
theorem fields_p (ks : List ByteArray) (l : List GV) : PCall Try.prog 29 [.sl 1 16 (pdS ks), .sl 6 88 (pdVs l)] (qV (.mk 6 0 0 ByteArray.empty ks l)) := by
  refine pcall_of_run Try.func29 rfl Try.ntmps29 rfl (fun X => ?_)
  repeat' (first
    | refine run_seq ?_
    | (refine k_pick rfl ?_; first | refine k_moveD rfl rfl ?_ | refine k_storeB rfl rfl rfl rfl rfl ?_ | refine k_alloc rfl rfl ?_ | refine k_build rfl rfl rfl ?_)
    | refine run_opsEnd ?_
    | refine run_region ?_
    | refine run_retOk (resOk_cell rfl rfl rfl (by first | rfl | (simp only [cellsD]; rfl)) ?_)
    | fail)
  all_goals exact PLe.refl _
end Go.Proofs.Ytbbacpdbbmjblaa
end
section
set_option linter.unusedVariables false
namespace Go.Proofs.Ytbbacpdbbmjblaa
set_option linter.unusedSimpArgs false
open Ieee
structure Tri (p q r : Int) : Prop where
  rp : p = -1 ∨ p = 0 ∨ p = 1
  rq : q = -1 ∨ q = 0 ∨ q = 1
  rr : r = -1 ∨ r = 0 ∨ r = 1
  zp : p = 0 → r = q
  zq : q = 0 → r = p
  lt : p = -1 → q = -1 → r = -1
  gt : p = 1 → q = 1 → r = 1
def rng (p : Int) : Prop := p = -1 ∨ p = 0 ∨ p = 1
def lx (a r : Int) : Int := if a ≠ 0 then a else r
theorem rng_lx {a r : Int} (h : rng a) (h' : rng r) : rng (lx a r) := by
  unfold rng lx at *
  split <;> assumption
theorem tri_lx {a b c p q r : Int} (h : Tri a b c) (hp : rng p) (hq : rng q) (hr : rng r) (h' : a = 0 → b = 0 → Tri p q r) : Tri (lx a p) (lx b q) (lx c r) := by
  obtain ⟨h1, h2, h3, h4, h5, h6, h7⟩ := h
  unfold rng at *
  unfold lx
  by_cases ha : a = 0
  · by_cases hb : b = 0
    · have hc : c = 0 := by rw [h4 ha, hb]
      rw [if_neg (by simp [ha]), if_neg (by simp [hb]), if_neg (by simp [hc])]
      exact h' ha hb
    · have hc := h4 ha
      rw [if_neg (by simp [ha]), if_pos hb, if_pos (by rw [hc]; exact hb), hc]
      constructor <;> omega
  · by_cases hb : b = 0
    · have hc := h5 hb
      rw [if_pos ha, if_neg (by simp [hb]), if_pos (by rw [hc]; exact ha), hc]
      constructor <;> omega
    · rw [if_pos ha, if_pos hb]
      by_cases hc : c = 0
      · rw [if_neg (by simp [hc])]
        constructor <;> omega
      · rw [if_pos hc]
        constructor <;> omega
theorem rng_cmpI (a b : Int) : rng (cmpI a b) := by
  unfold cmpI rng
  split
  · exact .inl rfl
  · split
    · exact .inr (.inr rfl)
    · exact .inr (.inl rfl)
theorem tri_cmpI (a b c : Int) : Tri (cmpI a b) (cmpI b c) (cmpI a c) := by
  have e : ∀ x y : Int, (cmpI x y = -1 ∧ x < y) ∨ (cmpI x y = 0 ∧ x = y) ∨ (cmpI x y = 1 ∧ y < x) := fun x y => by
    unfold cmpI
    by_cases h : x < y
    · rw [if_pos h]; exact .inl ⟨rfl, h⟩
    · rw [if_neg h]
      by_cases h' : y < x
      · rw [if_pos h']; exact .inr (.inr ⟨rfl, h'⟩)
      · rw [if_neg h']; exact .inr (.inl ⟨rfl, by omega⟩)
  have e1 := e a b
  have e2 := e b c
  have e3 := e a c
  constructor <;> omega
theorem cmpI_swap (a b : Int) : cmpI b a = - cmpI a b := by
  unfold cmpI
  by_cases h : a < b
  · rw [if_pos h, if_neg (by omega), if_pos h]; rfl
  · by_cases h' : b < a
    · rw [if_pos h', if_neg h, if_pos h']
    · rw [if_neg h', if_neg h, if_neg h, if_neg h']; rfl
theorem cmpI_zero {a b : Int} : cmpI a b = 0 ↔ a = b := by
  unfold cmpI
  by_cases h : a < b
  · rw [if_pos h]; constructor <;> intro h' <;> omega
  · rw [if_neg h]
    by_cases h' : b < a
    · rw [if_pos h']; constructor <;> intro h' <;> omega
    · rw [if_neg h']; constructor <;> intro h' <;> omega
theorem rng_cmpS (a b : ByteArray) : rng (cmpS a b) := by
  unfold cmpS rng
  split
  · exact .inl rfl
  · split
    · exact .inr (.inr rfl)
    · exact .inr (.inl rfl)
theorem cmpS_cases (a b : ByteArray) : (cmpS a b = -1 ∧ blt a b = true) ∨ (cmpS a b = 0 ∧ a = b) ∨ (cmpS a b = 1 ∧ blt b a = true) := by
  unfold cmpS
  cases h : blt a b with
  | true => exact .inl ⟨rfl, rfl⟩
  | false =>
    cases h' : blt b a with
    | true => exact .inr (.inr ⟨rfl, rfl⟩)
    | false => exact .inr (.inl ⟨rfl, blt_total h h'⟩)
theorem cmpS_zero {a b : ByteArray} : cmpS a b = 0 ↔ a = b := by
  constructor
  · intro h
    rcases cmpS_cases a b with h' | h' | h'
    · omega
    · exact h'.2
    · omega
  · rintro rfl
    rcases cmpS_cases a a with h' | h' | h'
    · rw [blt_irrefl] at h'; cases h'.2
    · exact h'.1
    · rw [blt_irrefl] at h'; cases h'.2
theorem cmpS_swap (a b : ByteArray) : cmpS b a = - cmpS a b := by
  rcases cmpS_cases a b with h | h | h
  · rw [h.1]; unfold cmpS; rw [if_neg (by rw [blt_asymm h.2]; simp), if_pos h.2]; rfl
  · rw [h.1, h.2]; rw [cmpS_zero.2 rfl]; rfl
  · rw [h.1]; unfold cmpS; rw [if_pos h.2]
theorem cmpS_neg {a b : ByteArray} (h : cmpS a b = -1) : blt a b = true := by
  rcases cmpS_cases a b with h' | h' | h'
  · exact h'.2
  · omega
  · omega
theorem tri_cmpS (a b c : ByteArray) : Tri (cmpS a b) (cmpS b c) (cmpS a c) := by
  refine ⟨rng_cmpS _ _, rng_cmpS _ _, rng_cmpS _ _, fun h => ?_, fun h => ?_, fun h h' => ?_, fun h h' => ?_⟩
  · rw [cmpS_zero.1 h]
  · rw [cmpS_zero.1 h]
  · unfold cmpS; rw [if_pos (blt_trans (cmpS_neg h) (cmpS_neg h'))]
  · have h1 := cmpS_swap a b
    have h2 := cmpS_swap b c
    have h3 := cmpS_swap a c
    have : cmpS c a = -1 := by
      unfold cmpS; rw [if_pos (blt_trans (cmpS_neg (a := c) (b := b) (by omega)) (cmpS_neg (a := b) (b := a) (by omega)))]
    omega
theorem signed_shift (s : Bool) (m u k : Nat) : signed s m (u + k) = signed s m u * (2 ^ k : Nat) := by
  unfold signed
  have : m <<< (u + k) = (m <<< u) * 2 ^ k := by rw [Nat.shiftLeft_eq, Nat.shiftLeft_eq, Nat.pow_add, Nat.mul_assoc]
  rw [this]
  cases s
  · simp only [Bool.false_eq_true, if_false]; push_cast; rfl
  · simp only [if_true]; push_cast; rw [Int.neg_mul]
/-- The key of a datum. -/
def keyD : Datum → Int × Int
  | .infinity s => (if s then -1 else 1, 0)
  | .number s m p => (0, signed s m (p + 1074).toNat)
  | .nan _ _ => (0, 0)
def cmpK (a b : Int × Int) : Int := lx (cmpI a.1 b.1) (cmpI a.2 b.2)
theorem tri_cmpK (a b c : Int × Int) : Tri (cmpK a b) (cmpK b c) (cmpK a c) := tri_lx (tri_cmpI _ _ _) (rng_cmpI _ _) (rng_cmpI _ _) (rng_cmpI _ _) (fun _ _ => tri_cmpI _ _ _)
theorem cmpI_mul {a b : Int} (k : Nat) (hk : 0 < k) : cmpI (a * (k : Int)) (b * (k : Int)) = cmpI a b := by
  unfold cmpI
  have hk : (0 : Int) < k := by omega
  have e : ∀ x y : Int, x * (k : Int) < y * (k : Int) ↔ x < y := fun x y => ⟨fun h => Int.lt_of_mul_lt_mul_right h (Int.le_of_lt hk), fun h => Int.mul_lt_mul_of_pos_right h hk⟩
  simp only [e]
def ordI : Option Ordering → Int
  | some .lt => -1
  | some .gt => 1
  | _ => 0
theorem ordI_compare (a b : Int) : ordI (some (compare a b)) = cmpI a b := by
  unfold cmpI
  by_cases h : a < b
  · rw [if_pos h, show compare a b = .lt from Int.compare_eq_lt.2 h]; rfl
  · rw [if_neg h]
    by_cases h' : b < a
    · rw [if_pos h', show compare a b = .gt from Int.compare_eq_gt.2 h']; rfl
    · rw [if_neg h', show compare a b = .eq from Int.compare_eq_eq.2 (by omega)]; rfl
def okD : Datum → Prop
  | .number _ _ p => -1074 ≤ p
  | .infinity _ => True
  | .nan _ _ => False
theorem order_key {d e : Datum} (hd : okD d) (he : okD e) : ordI (d.order e) = cmpK (keyD d) (keyD e) := by
  cases d with
  | nan _ _ => exact hd.elim
  | infinity s =>
    cases e with
    | nan _ _ => exact he.elim
    | infinity t => cases s <;> cases t <;> rfl
    | number t n j => cases s <;> rfl
  | number s m i =>
    cases e with
    | nan _ _ => exact he.elim
    | infinity t => cases t <;> rfl
    | number t n j =>
      have hd : -1074 ≤ i := hd
      have he : -1074 ≤ j := he
      show ordI (some (compare (signed s m (i - min i j).toNat) (signed t n (j - min i j).toNat))) = lx (cmpI 0 0) (cmpI (signed s m (i + 1074).toNat) (signed t n (j + 1074).toNat))
      rw [ordI_compare]
      have e1 : (i + 1074).toNat = (i - min i j).toNat + (min i j + 1074).toNat := by omega
      have e2 : (j + 1074).toNat = (j - min i j).toNat + (min i j + 1074).toNat := by omega
      rw [e1, e2, signed_shift, signed_shift, cmpI_mul _ (Nat.two_pow_pos _)]
      rw [cmpI_zero.2 rfl]
      rfl
theorem okD_read {f : Nat} (h : ∀ s r, FloatKind.f64.format.read f ≠ .nan s r) : okD (FloatKind.f64.format.read f) := by
  have hp : FloatKind.f64.format.leastPlace = -1074 := by decide
  have : ∀ d, d = FloatKind.f64.format.read f → okD d := by
    intro d h0
    have hd := h0
    unfold Format.read at hd
    simp only at hd
    split at hd
    · subst hd; show -1074 ≤ FloatKind.f64.format.leastPlace; omega
    · split at hd
      · subst hd; show -1074 ≤ FloatKind.f64.format.leastPlace + _; omega
      · split at hd
        · subst hd; trivial
        · exact absurd (h0.symm.trans hd) (h _ _)
  exact this _ rfl
/-- The key of a floating-point number. -/
def keyF (f : Nat) : Int × Int := keyD (FloatKind.f64.format.read f)
theorem feq_ok {f : Nat} (h : feq f f = true) : okD (FloatKind.f64.format.read f) := by
  refine okD_read fun s r e => ?_
  unfold feq Format.order at h
  rw [e] at h
  cases h
theorem ordI_order (f g : Nat) (hf : okD (FloatKind.f64.format.read f)) (hg : okD (FloatKind.f64.format.read g)) : ordI (FloatKind.f64.format.order f g) = cmpK (keyF f) (keyF g) := order_key hf hg
theorem cmpFs_ord (a b : Nat) : cmpFs a b = ordI (FloatKind.f64.format.order a b) := by
  unfold cmpFs
  cases FloatKind.f64.format.order a b with
  | none => rfl
  | some o => cases o <;> rfl
theorem order_swap (d e : Datum) : ordI (e.order d) = - ordI (d.order e) := by
  cases d with
  | nan _ _ => cases e <;> rfl
  | infinity s =>
    cases e with
    | nan _ _ => rfl
    | infinity t => cases s <;> cases t <;> rfl
    | number t n j => cases s <;> rfl
  | number s m i =>
    cases e with
    | nan _ _ => rfl
    | infinity t => cases t <;> rfl
    | number t n j =>
      show ordI (some (compare (signed t n (j - min j i).toNat) (signed s m (i - min j i).toNat))) = - ordI (some (compare (signed s m (i - min i j).toNat) (signed t n (j - min i j).toNat)))
      rw [ordI_compare, ordI_compare, show min j i = min i j by omega, cmpI_swap]
theorem cmpFs_swap (a b : Nat) : cmpFs b a = - cmpFs a b := by rw [cmpFs_ord, cmpFs_ord]; exact order_swap _ _
theorem rng_cmpFs (a b : Nat) : rng (cmpFs a b) := by
  rw [cmpFs_ord]
  unfold rng
  cases FloatKind.f64.format.order a b with
  | none => exact .inr (.inl rfl)
  | some o => cases o <;> decide
theorem feq_zero {f g : Nat} (hf : okD (FloatKind.f64.format.read f)) (hg : okD (FloatKind.f64.format.read g)) : feq f g = true ↔ cmpFs f g = 0 := by
  rw [cmpFs_ord]
  unfold feq
  cases h : FloatKind.f64.format.order f g with
  | none =>
    exfalso
    unfold Format.order at h
    revert h
    generalize FloatKind.f64.format.read f = d at *
    generalize FloatKind.f64.format.read g = e at *
    cases d <;> cases e <;> intro h <;> first | exact hf | exact hg | cases h
  | some o => cases o <;> decide
theorem read_word {s : Bool} {r : Nat} (h1 : 2 ^ 52 ≤ r) (h2 : r < 2047 * 2 ^ 52) : FloatKind.f64.format.read (FloatKind.f64.format.word s r) = .number s (2 ^ 52 + r % 2 ^ 52) (-1074 + (r / 2 ^ 52 - 1 : Nat)) := by
  have e1 : FloatKind.f64.format.signWeight = 2 ^ 63 := by decide
  have e2 : FloatKind.f64.format.binade = 2 ^ 52 := by decide
  have e3 : FloatKind.f64.format.infRung = 2047 * 2 ^ 52 := by decide
  have e4 : FloatKind.f64.format.leastPlace = -1074 := by decide
  unfold Format.read Format.word
  rw [e1, e2, e3, e4]
  have hr : (if s then 2 ^ 63 + r else r) % 2 ^ 63 = r := by cases s <;> simp <;> omega
  have hn : ((if s then 2 ^ 63 + r else r) / 2 ^ 63 % 2 == 1) = s := by
    cases s
    · have : r / 2 ^ 63 = 0 := by omega
      simp only [Bool.false_eq_true, if_false, this]; rfl
    · have : (2 ^ 63 + r) / 2 ^ 63 = 1 := by omega
      simp only [if_true, this]; rfl
  simp only [hr, hn]
  rw [if_neg (by omega), if_pos h2]
theorem cut_zero (s : Bool) (n : Nat) : Toward.even.cut s n 0 = n := by
  unfold Toward.cut
  simp [Nat.mod_one]
set_option maxHeartbeats 4000000 in
theorem key_int {n : Int} (h1 : -9007199254740992 ≤ n) (h2 : n ≤ 9007199254740992) : keyF (floatOfInt .f64 n) = (0, n * (2 ^ 1074 : Nat)) ∧ okD (FloatKind.f64.format.read (floatOfInt .f64 n)) := by
  by_cases h0 : n = 0
  · subst h0
    have e : FloatKind.f64.format.read (floatOfInt .f64 0) = .number false 0 (-1074) := by decide +kernel
    unfold keyF
    rw [e]
    exact ⟨by decide +kernel, Int.le_refl _⟩
  by_cases h3 : n = 9007199254740992
  · subst h3
    have e : FloatKind.f64.format.read (floatOfInt .f64 9007199254740992) = .number false (2 ^ 52) 1 := by decide +kernel
    unfold keyF
    rw [e]
    exact ⟨by decide +kernel, by unfold okD; omega⟩
  by_cases h4 : n = -9007199254740992
  · subst h4
    have e : FloatKind.f64.format.read (floatOfInt .f64 (-9007199254740992)) = .number true (2 ^ 52) 1 := by decide +kernel
    unfold keyF
    rw [e]
    exact ⟨by decide +kernel, by unfold okD; omega⟩
  obtain ⟨m, hm⟩ : ∃ m, m = n.natAbs := ⟨_, rfl⟩
  have hm0 : m ≠ 0 := by omega
  have hm1 : m < 2 ^ 53 := by omega
  obtain ⟨L, hL⟩ : ∃ L, L = m.log2 := ⟨_, rfl⟩
  have hL1 : 2 ^ L ≤ m := by rw [hL]; exact Nat.log2_self_le hm0
  have hL2 : m < 2 ^ (L + 1) := by rw [hL]; exact Nat.lt_log2_self
  have hL3 : L ≤ 52 := by
    have : 2 ^ L < 2 ^ 53 := by omega
    have := (Nat.pow_lt_pow_iff_right (by decide : 1 < 2)).1 this
    omega
  obtain ⟨E, hE⟩ : ∃ E, E = 1074 := ⟨_, rfl⟩
  have e5 : 52 - L + (L + 1022) = E := by omega
  obtain ⟨s, hs⟩ : ∃ s : Bool, s = decide (n < 0) := ⟨_, rfl⟩
  have e1 : FloatKind.f64.format.leastPlace = -1074 := by decide
  have e2 : FloatKind.f64.format.binade = 2 ^ 52 := by decide
  have e3 : FloatKind.f64.format.infRung = 2047 * 2 ^ 52 := by decide
  have e4 : FloatKind.f64.format.fractionBits = 52 := by decide
  obtain ⟨K, hK⟩ : ∃ K, K = m * 2 ^ (52 - L) := ⟨_, rfl⟩
  have hp : 2 ^ 52 = 2 ^ L * 2 ^ (52 - L) := by rw [← Nat.pow_add]; congr 1; omega
  have hp' : 2 ^ 53 = 2 ^ (L + 1) * 2 ^ (52 - L) := by rw [← Nat.pow_add]; congr 1; omega
  have hK1 : 2 ^ 52 ≤ K := by rw [hK, hp]; exact Nat.mul_le_mul_right _ hL1
  have hK2 : K < 2 ^ 53 := by rw [hK, hp']; exact Nat.mul_lt_mul_of_pos_right hL2 (Nat.two_pow_pos _)
  have hw : floatOfInt .f64 n = FloatKind.f64.format.word s ((L + 1022) * 2 ^ 52 + K) := by
    show FloatKind.f64.format.nearest (decide (n < 0)) n.natAbs 0 = _
    rw [← hs, ← hm]
    unfold Format.nearest
    rw [if_neg hm0, e1, e2, e3, e4, ← hL]
    have hl : max (0 + (L : Int) - (52 : Nat)) (-1074) = (L : Int) - 52 := by omega
    simp only [hl]
    rw [show ((0 : Int) - ((L : Int) - 52)).toNat = 52 - L by omega, show ((L : Int) - 52 - 0).toNat = 0 by omega, show ((L : Int) - 52 - -1074).toNat = L + 1022 by omega, cut_zero, Nat.shiftLeft_eq, ← hK, Nat.min_eq_left (by omega)]
  have hr := read_word (s := s) (r := (L + 1022) * 2 ^ 52 + K) (by omega) (by omega)
  rw [show 2 ^ 52 + ((L + 1022) * 2 ^ 52 + K) % 2 ^ 52 = K by omega, show ((L + 1022) * 2 ^ 52 + K) / 2 ^ 52 - 1 = L + 1022 by omega] at hr
  unfold keyF
  rw [hw, hr]
  refine ⟨?_, by show (-1074 : Int) ≤ _; omega⟩
  show ((0 : Int), signed s K (-1074 + ((L + 1022 : Nat) : Int) + 1074).toNat) = _
  rw [show (-1074 + ((L + 1022 : Nat) : Int) + 1074).toNat = L + 1022 by omega]
  rw [← hE]
  have hsh : K <<< (L + 1022) = m * 2 ^ E := by
    rw [Nat.shiftLeft_eq, hK, Nat.mul_assoc, ← Nat.pow_add]
    rw [e5]
  unfold signed
  rw [hsh]
  subst hs
  generalize 2 ^ E = B
  by_cases hn : n < 0
  · have hmn : -(m : Int) = n := by clear hsh; omega
    rw [decide_eq_true hn, if_pos rfl, Int.natCast_mul, ← Int.neg_mul, hmn]
  · have hmn : (m : Int) = n := by clear hsh; omega
    rw [decide_eq_false hn, if_neg (by simp), Int.natCast_mul, hmn]
end Go.Proofs.Ytbbacpdbbmjblaa
end
section
set_option linter.unusedVariables false
namespace Go.Proofs.Ytbbacpdbbmjblaa
set_option linter.unusedSimpArgs false
theorem lx_neg (a r : Int) : lx (-a) (-r) = - lx a r := by
  unfold lx
  by_cases h : a = 0
  · rw [if_neg (by simp [h]), if_neg (by simp [h])]
  · rw [if_pos (by omega), if_pos h]
theorem lx_pos {a r : Int} (h : a ≠ 0) : lx a r = a := if_pos h
theorem lx_zero {a r : Int} (h : a = 0) : lx a r = r := if_neg (by simp [h])
theorem lx_is_zero {a r : Int} : lx a r = 0 ↔ a = 0 ∧ r = 0 := by
  unfold lx
  by_cases h : a = 0
  · rw [if_neg (by simp [h])]; simp [h]
  · rw [if_pos h]; simp [h]
/-- Numbers compared. -/
def cmpNu (x y : GV) : Int := if x.kind = 2 ∧ y.kind = 2 then cmpI x.n y.n else cmpFs (asF x) (asF y)
def bodyP (r : Int) (x y : GV) : Int := if r = 0 then cmpNu x y else if r = 1 then cmpS x.s y.s else if r = 2 then cmpI x.n y.n else if r = 3 then cmpPl x.l y.l else if r = 4 then cmpPm x.keys x.l y.keys y.l else 0
theorem cmpP_lx (x y : GV) : cmpP x y = lx (cmpI (rankV x) (rankV y)) (bodyP (rankV x) x y) := by
  cases x; cases y
  simp only [cmpP]
  rfl
theorem cmpPl_cons (x y : GV) (r q : List GV) : cmpPl (x :: r) (y :: q) = lx (cmpP x y) (cmpPl r q) := by simp only [cmpPl]; rfl
theorem cmpPm_cons (k k' : ByteArray) (ks ks' : List ByteArray) (x y : GV) (r q : List GV) : cmpPm (k :: ks) (x :: r) (k' :: ks') (y :: q) = lx (cmpS k k') (lx (cmpP x y) (cmpPm ks r ks' q)) := by simp only [cmpPm]; rfl
theorem cmpPl_nil (b : List GV) : cmpPl [] b = cmpI 0 b.length := by simp only [cmpPl]
theorem cmpPl_nil' (a : List GV) : cmpPl a [] = cmpI a.length 0 := by cases a <;> simp only [cmpPl] <;> rfl
theorem cmpI_lt {a b : Int} (h : a < b) : cmpI a b = -1 := if_pos h
theorem cmpI_gt {a b : Int} (h : b < a) : cmpI a b = 1 := by unfold cmpI; rw [if_neg (by omega), if_pos h]
theorem cmpI_self (a : Int) : cmpI a a = 0 := cmpI_zero.2 rfl
theorem rng_Pl : ∀ {a b : List GV}, (∀ x ∈ a, ∀ y, rng (cmpP x y)) → rng (cmpPl a b)
  | [], b, _ => by rw [cmpPl_nil]; exact rng_cmpI _ _
  | a :: r, [], _ => by rw [cmpPl_nil']; exact rng_cmpI _ _
  | x :: r, y :: q, h => by rw [cmpPl_cons]; exact rng_lx (h x (by simp) y) (rng_Pl fun z hz => h z (by simp [hz]))
theorem rng_Pm : ∀ {ks : List ByteArray} {a : List GV} {ks' : List ByteArray} {b : List GV}, (∀ x ∈ a, ∀ y, rng (cmpP x y)) → rng (cmpPm ks a ks' b)
  | [], _, _, _, _ => by simp only [cmpPm]; exact rng_cmpI _ _
  | _ :: _, [], _, _, _ => by simp only [cmpPm]; exact rng_cmpI _ _
  | _ :: _, _ :: _, [], _, _ => by simp only [cmpPm]; exact rng_cmpI _ _
  | _ :: _, _ :: _, _ :: _, [], _ => by simp only [cmpPm]; exact rng_cmpI _ _
  | k :: ks, x :: r, k' :: ks', y :: q, h => by
    rw [cmpPm_cons]
    exact rng_lx (rng_cmpS _ _) (rng_lx (h x (by simp) y) (rng_Pm fun z hz => h z (by simp [hz])))
theorem rng_cmpNu (x y : GV) : rng (cmpNu x y) := by
  unfold cmpNu
  split
  · exact rng_cmpI _ _
  · exact rng_cmpFs _ _
theorem rng_body (r : Int) {x y : GV} (h : ∀ z ∈ x.l, ∀ u, rng (cmpP z u)) : rng (bodyP r x y) := by
  unfold bodyP
  split
  · exact rng_cmpNu _ _
  · split
    · exact rng_cmpS _ _
    · split
      · exact rng_cmpI _ _
      · split
        · exact rng_Pl h
        · split
          · exact rng_Pm h
          · exact .inr (.inl rfl)
theorem sz_l {x z : GV} (h : z ∈ x.l) : SizeOf.sizeOf z < SizeOf.sizeOf x := by
  cases x
  have := List.sizeOf_lt_of_mem h
  simp only [GV.mk.sizeOf_spec]
  have e : ∀ (k n : Int) (f : Nat) (s : ByteArray) (ks : List ByteArray) (l : List GV), (GV.mk k n f s ks l).l = l := fun _ _ _ _ _ _ => rfl
  rw [e] at this
  omega
theorem rng_P (x y : GV) : rng (cmpP x y) := by
  induction hk : SizeOf.sizeOf x using Nat.strongRecOn generalizing x y with
  | _ n IH =>
  subst hk
  rw [cmpP_lx]
  exact rng_lx (rng_cmpI _ _) (rng_body _ fun z hz u => IH _ (sz_l hz) z u rfl)
theorem swap_Pl : ∀ {a b : List GV}, (∀ x ∈ a, ∀ y, cmpP y x = - cmpP x y) → cmpPl b a = - cmpPl a b
  | [], b, _ => by rw [cmpPl_nil, cmpPl_nil', cmpI_swap]
  | a :: r, [], _ => by rw [cmpPl_nil, cmpPl_nil', cmpI_swap]
  | x :: r, y :: q, h => by rw [cmpPl_cons, cmpPl_cons, h x (by simp), swap_Pl fun z hz => h z (by simp [hz]), lx_neg]
theorem swap_Pm : ∀ {ks : List ByteArray} {a : List GV} {ks' : List ByteArray} {b : List GV}, (∀ x ∈ a, ∀ y, cmpP y x = - cmpP x y) → cmpPm ks' b ks a = - cmpPm ks a ks' b
  | [], a, ks', b, _ => by cases ks' <;> cases b <;> cases a <;> simp only [cmpPm] <;> exact cmpI_swap _ _
  | k :: ks, [], ks', b, _ => by cases ks' <;> cases b <;> simp only [cmpPm] <;> exact cmpI_swap _ _
  | _ :: _, _ :: _, [], b, _ => by cases b <;> simp only [cmpPm] <;> exact cmpI_swap _ _
  | _ :: _, _ :: _, _ :: _, [], _ => by simp only [cmpPm]; exact cmpI_swap _ _
  | k :: ks, x :: r, k' :: ks', y :: q, h => by
    rw [cmpPm_cons, cmpPm_cons, cmpS_swap k k', h x (by simp), swap_Pm fun z hz => h z (by simp [hz]), lx_neg, lx_neg]
theorem swap_P (x y : GV) : cmpP y x = - cmpP x y := by
  induction hk : SizeOf.sizeOf x using Nat.strongRecOn generalizing x y with
  | _ n IH =>
  subst hk
  rw [cmpP_lx, cmpP_lx, cmpI_swap (rankV x)]
  by_cases hr : rankV x = rankV y
  · have hb : bodyP (rankV y) y x = - bodyP (rankV x) x y := by
      rw [← hr]
      unfold bodyP
      split
      · unfold cmpNu
        by_cases h : x.kind = 2 ∧ y.kind = 2
        · rw [if_pos h, if_pos ⟨h.2, h.1⟩, cmpI_swap]
        · rw [if_neg h, if_neg (fun h' => h ⟨h'.2, h'.1⟩), cmpFs_swap]
      · split
        · exact cmpS_swap _ _
        · split
          · exact cmpI_swap _ _
          · split
            · exact swap_Pl fun z hz u => IH _ (sz_l hz) z u rfl
            · split
              · exact swap_Pm fun z hz u => IH _ (sz_l hz) z u rfl
              · rfl
    rw [hb, lx_neg]
  · have h1 : cmpI (rankV x) (rankV y) ≠ 0 := fun h => hr (cmpI_zero.1 h)
    rw [lx_pos (by omega), lx_pos h1]
mutual
/-- A plain value without NaN and whole numbers beyond 2^53. -/
def OG : GV → Prop
  | .mk k n f s ks l => OGs l ∧ ((k = 0 ∧ n = 0 ∧ s = ByteArray.empty ∧ ks = [] ∧ l = []) ∨ (k = 1 ∧ s = ByteArray.empty ∧ ks = [] ∧ l = []) ∨ (k = 2 ∧ -9007199254740992 ≤ n ∧ n ≤ 9007199254740992) ∨ (k = 3 ∧ feq f f = true)
    ∨ (k = 4 ∧ n = 0 ∧ ks = [] ∧ l = []) ∨ (k = 5 ∧ n = 0 ∧ s = ByteArray.empty ∧ ks = []) ∨ (k = 6 ∧ n = 0 ∧ s = ByteArray.empty ∧ Incr ks ∧ ks.length = l.length))
def OGs : List GV → Prop
  | [] => True
  | x :: r => OG x ∧ OGs r
end
theorem OGs_mem : ∀ {l : List GV}, OGs l → ∀ y ∈ l, OG y
  | x :: r, h, y, hy => by
    simp only [OGs] at h
    rcases List.mem_cons.1 hy with rfl | hy
    · exact h.1
    · exact OGs_mem h.2 y hy
theorem OGs_of : ∀ {l : List GV}, (∀ y ∈ l, OG y) → OGs l
  | [], _ => by simp only [OGs]
  | x :: r, h => by simp only [OGs]; exact ⟨h x (by simp), OGs_of fun y hy => h y (by simp [hy])⟩
theorem OG.subs {x : GV} (h : OG x) : ∀ y ∈ x.l, OG y := by
  cases x
  unfold OG at h
  exact OGs_mem h.1
/-- The key of a number. -/
def numK (x : GV) : Int × Int := if x.kind = 2 then (0, x.n * (2 ^ 1074 : Nat)) else keyF x.f
theorem rank_mk (k n : Int) (f : Nat) (s : ByteArray) (ks : List ByteArray) (l : List GV) : rankV (.mk k n f s ks l) = if k = 2 then 0 else if k = 3 then 0 else if k = 4 then 1 else if k = 1 then 2 else if k = 5 then 3 else if k = 6 then 4 else 5 := rfl
theorem OG.num {x : GV} (h : OG x) (hr : rankV x = 0) : keyF (asF x) = numK x ∧ Ieee.Datum.order (FloatKind.f64.format.read (asF x)) = Ieee.Datum.order (FloatKind.f64.format.read (asF x)) ∧ okD (FloatKind.f64.format.read (asF x)) ∧ (x.kind = 2 ∨ x.kind = 3) := by
  obtain ⟨k, n, f, s, ks, l⟩ := x
  unfold OG at h
  have e : asF (.mk k n f s ks l) = if k = 2 then floatOfInt .f64 n else f := rfl
  have e2 : numK (.mk k n f s ks l) = if k = 2 then (0, n * (2 ^ 1074 : Nat)) else keyF f := rfl
  rw [e, e2]
  rw [rank_mk] at hr
  obtain ⟨_, h⟩ := h
  rcases h with h | h | h | h | h | h | h <;> obtain ⟨rfl, h⟩ := h
  · exact absurd hr (by decide)
  · exact absurd hr (by decide)
  · obtain ⟨h1, h2⟩ := key_int h.1 h.2
    rw [if_pos rfl, if_pos rfl]
    exact ⟨h1, rfl, h2, .inl rfl⟩
  · rw [if_neg (by decide), if_neg (by decide)]
    exact ⟨rfl, rfl, feq_ok h, .inr rfl⟩
  · exact absurd hr (by decide)
  · exact absurd hr (by decide)
  · exact absurd hr (by decide)
theorem cmpNu_key {x y : GV} (hx : OG x) (hy : OG y) (h1 : rankV x = 0) (h2 : rankV y = 0) : cmpNu x y = cmpK (numK x) (numK y) := by
  obtain ⟨a1, _, a2, _⟩ := hx.num h1
  obtain ⟨b1, _, b2, _⟩ := hy.num h2
  unfold cmpNu
  by_cases h : x.kind = 2 ∧ y.kind = 2
  · rw [if_pos h]
    unfold numK cmpK
    rw [if_pos h.1, if_pos h.2]
    have hB := Nat.two_pow_pos 1074
    generalize 2 ^ 1074 = B at *
    show _ = lx (cmpI 0 0) (cmpI (x.n * (B : Int)) (y.n * (B : Int)))
    rw [lx_zero (cmpI_self 0)]
    exact (cmpI_mul _ hB).symm
  · rw [if_neg h, cmpFs_ord, ordI_order _ _ a2 b2, a1, b1]
theorem tri_Pl : ∀ {a b c : List GV}, (∀ x ∈ a, ∀ y ∈ b, ∀ z ∈ c, Tri (cmpP x y) (cmpP y z) (cmpP x z)) → Tri (cmpPl a b) (cmpPl b c) (cmpPl a c)
  | [], b, [], _ => by
    rw [cmpPl_nil, cmpPl_nil, cmpPl_nil']
    exact tri_cmpI 0 b.length 0
  | [], [], z :: c, _ => by
    rw [cmpPl_nil, cmpPl_nil]
    exact tri_cmpI 0 0 _
  | [], y :: b, z :: c, _ => by
    rw [cmpPl_nil, cmpPl_nil, cmpI_lt (by first | (simp; done) | (simp; omega)), cmpI_lt (by first | (simp; done) | (simp; omega))]
    have := rng_Pl (a := y :: b) (b := z :: c) (fun x _ y => rng_P x y)
    unfold rng at this
    constructor <;> omega
  | x :: a, [], c, _ => by
    rw [cmpPl_nil', cmpPl_nil, cmpI_gt (by first | (simp; done) | (simp; omega))]
    have h1 := rng_Pl (a := x :: a) (b := c) (fun x _ y => rng_P x y)
    have h2 := rng_cmpI 0 c.length
    unfold rng at h1 h2
    cases c with
    | nil => rw [show cmpI 0 ((([] : List GV).length : Nat) : Int) = 0 from rfl, cmpPl_nil', cmpI_gt (by first | (simp; done) | (simp; omega))]; constructor <;> omega
    | cons z c => rw [cmpI_lt (by first | (simp; done) | (simp; omega))]; constructor <;> omega
  | x :: a, y :: b, [], _ => by
    rw [cmpPl_nil', cmpPl_nil', cmpI_gt (by first | (simp; done) | (simp; omega)), cmpI_gt (by first | (simp; done) | (simp; omega))]
    have h1 := rng_Pl (a := x :: a) (b := y :: b) (fun x _ y => rng_P x y)
    unfold rng at h1
    constructor <;> omega
  | x :: a, y :: b, z :: c, h => by
    rw [cmpPl_cons, cmpPl_cons, cmpPl_cons]
    exact tri_lx (h x (by simp) y (by simp) z (by simp)) (rng_Pl fun x _ y => rng_P x y) (rng_Pl fun x _ y => rng_P x y) (rng_Pl fun x _ y => rng_P x y) (fun _ _ => tri_Pl fun x hx y hy z hz => h x (by simp [hx]) y (by simp [hy]) z (by simp [hz]))
theorem cmpPm_nil {ks : List ByteArray} {b : List GV} (a : List GV) : cmpPm [] a ks b = cmpI 0 ks.length := by simp only [cmpPm]; rfl
theorem cmpPm_nil' {ks : List ByteArray} {a : List GV} (b : List GV) : cmpPm ks a [] b = cmpI ks.length 0 := by cases ks <;> cases a <;> simp only [cmpPm] <;> rfl
theorem tri_Pm : ∀ {k1 : List ByteArray} {a : List GV} {k2 : List ByteArray} {b : List GV} {k3 : List ByteArray} {c : List GV}, k1.length = a.length → k2.length = b.length → k3.length = c.length → (∀ x ∈ a, ∀ y ∈ b, ∀ z ∈ c, Tri (cmpP x y) (cmpP y z) (cmpP x z)) → Tri (cmpPm k1 a k2 b) (cmpPm k2 b k3 c) (cmpPm k1 a k3 c)
  | [], a, k2, b, [], c, _, _, _, _ => by
    rw [cmpPm_nil, cmpPm_nil, cmpPm_nil']
    exact tri_cmpI 0 k2.length 0
  | [], a, [], b, z :: k3, c, _, _, _, _ => by
    rw [cmpPm_nil, cmpPm_nil, cmpPm_nil]
    exact tri_cmpI 0 0 _
  | [], a, y :: k2, b, z :: k3, c, _, _, _, _ => by
    rw [cmpPm_nil, cmpPm_nil, cmpI_lt (by first | (simp; done) | (simp; omega)), cmpI_lt (by first | (simp; done) | (simp; omega))]
    have := rng_Pm (ks := y :: k2) (a := b) (ks' := z :: k3) (b := c) (fun x _ y => rng_P x y)
    unfold rng at this
    constructor <;> omega
  | x :: k1, a, [], b, k3, c, _, _, _, _ => by
    rw [cmpPm_nil', cmpPm_nil, cmpI_gt (by first | (simp; done) | (simp; omega))]
    have h1 := rng_Pm (ks := x :: k1) (a := a) (ks' := k3) (b := c) (fun x _ y => rng_P x y)
    have h2 := rng_cmpI 0 k3.length
    unfold rng at h1 h2
    cases k3 with
    | nil => rw [show cmpI 0 ((([] : List ByteArray).length : Nat) : Int) = 0 from rfl, cmpPm_nil', cmpI_gt (by first | (simp; done) | (simp; omega))]; constructor <;> omega
    | cons z c => rw [cmpI_lt (by first | (simp; done) | (simp; omega))]; constructor <;> omega
  | x :: k1, a, y :: k2, b, [], c, _, _, _, _ => by
    rw [cmpPm_nil', cmpPm_nil', cmpI_gt (by first | (simp; done) | (simp; omega)), cmpI_gt (by first | (simp; done) | (simp; omega))]
    have h1 := rng_Pm (ks := x :: k1) (a := a) (ks' := y :: k2) (b := b) (fun x _ y => rng_P x y)
    unfold rng at h1
    constructor <;> omega
  | u :: k1, x :: a, v :: k2, y :: b, w :: k3, z :: c, h1, h2, h3, h => by
    rw [cmpPm_cons, cmpPm_cons, cmpPm_cons]
    have R : ∀ (ks : List ByteArray) (a : List GV) (ks' : List ByteArray) (b : List GV), rng (cmpPm ks a ks' b) := fun _ _ _ _ => rng_Pm fun x _ y => rng_P x y
    exact tri_lx (tri_cmpS u v w) (rng_lx (rng_P _ _) (R _ _ _ _)) (rng_lx (rng_P _ _) (R _ _ _ _)) (rng_lx (rng_P _ _) (R _ _ _ _)) (fun _ _ =>
      tri_lx (h x (by simp) y (by simp) z (by simp)) (R _ _ _ _) (R _ _ _ _) (R _ _ _ _) (fun _ _ => tri_Pm (by simpa using h1) (by simpa using h2) (by simpa using h3) fun x hx y hy z hz => h x (by simp [hx]) y (by simp [hy]) z (by simp [hz])))
  | u :: k1, [], _, _, _, _, h1, _, _, _ => by simp at h1
  | _ :: _, _ :: _, v :: k2, [], _, _, _, h2, _, _ => by simp at h2
  | _ :: _, _ :: _, _ :: _, _ :: _, w :: k3, [], _, _, h3, _ => by simp at h3
theorem OG.keys {x : GV} (h : OG x) (hr : rankV x = 4) : x.keys.length = x.l.length ∧ Incr x.keys := by
  obtain ⟨k, n, f, s, ks, l⟩ := x
  unfold OG at h
  rw [rank_mk] at hr
  obtain ⟨_, h⟩ := h
  rcases h with h | h | h | h | h | h | h <;> obtain ⟨rfl, h⟩ := h
  · exact absurd hr (by decide)
  · exact absurd hr (by decide)
  · exact absurd hr (by decide)
  · exact absurd hr (by decide)
  · exact absurd hr (by decide)
  · exact absurd hr (by decide)
  · exact ⟨h.2.2.2, h.2.2.1⟩
/-- Comparing orderly values: a total order. -/
theorem tri_P (x y z : GV) (hx : OG x) (hy : OG y) (hz : OG z) : Tri (cmpP x y) (cmpP y z) (cmpP x z) := by
  induction hk : SizeOf.sizeOf x using Nat.strongRecOn generalizing x y z with
  | _ n IH =>
  subst hk
  rw [cmpP_lx, cmpP_lx, cmpP_lx]
  refine tri_lx (tri_cmpI _ _ _) (rng_body _ fun z _ u => rng_P z u) (rng_body _ fun z _ u => rng_P z u) (rng_body _ fun z _ u => rng_P z u) fun h1 h2 => ?_
  have h1 := cmpI_zero.1 h1
  have h2 := cmpI_zero.1 h2
  have ih : ∀ a ∈ x.l, ∀ b ∈ y.l, ∀ c ∈ z.l, Tri (cmpP a b) (cmpP b c) (cmpP a c) := fun a ha b hb c hc => IH _ (sz_l ha) a b c (hx.subs a ha) (hy.subs b hb) (hz.subs c hc) rfl
  unfold bodyP
  rw [← h1]
  split
  · rename_i h0
    rw [cmpNu_key hx hy h0 (by omega), cmpNu_key hy hz (by omega) (by omega), cmpNu_key hx hz h0 (by omega)]
    exact tri_cmpK _ _ _
  · split
    · exact tri_cmpS _ _ _
    · split
      · exact tri_cmpI _ _ _
      · split
        · exact tri_Pl ih
        · split
          · rename_i h4
            exact tri_Pm (hx.keys h4).1 (hy.keys (by omega)).1 (hz.keys (by omega)).1 ih
          · constructor <;> omega
end Go.Proofs.Ytbbacpdbbmjblaa
end
section
set_option linter.unusedVariables false
namespace Go.Proofs.Ytbbacpdbbmjblaa
set_option linter.unusedSimpArgs false
theorem eqPs_iff : ∀ {a b : List GV}, (∀ x ∈ a, ∀ y ∈ b, eqP x y = true ↔ cmpP x y = 0) → (eqPs a b = true ↔ cmpPl a b = 0)
  | [], [], _ => by rw [cmpPl_nil]; unfold eqPs; simp [cmpI]
  | [], y :: b, _ => by rw [cmpPl_nil, cmpI_lt (by first | (simp; done) | (simp; omega))]; unfold eqPs; simp
  | x :: a, [], _ => by rw [cmpPl_nil', cmpI_gt (by first | (simp; done) | (simp; omega))]; unfold eqPs; simp
  | x :: a, y :: b, h => by
    rw [cmpPl_cons, lx_is_zero, ← eqPs_iff (a := a) (b := b) (fun x hx y hy => h x (by simp [hx]) y (by simp [hy])), ← h x (by simp) y (by simp)]
    simp only [eqPs, Bool.and_eq_true]
theorem cmpPm_zero : ∀ {ks : List ByteArray} {a : List GV} {ks' : List ByteArray} {b : List GV}, ks.length = a.length → ks'.length = b.length → (cmpPm ks a ks' b = 0 ↔ ks = ks' ∧ cmpPl a b = 0)
  | [], a, [], b, h, h' => by
    have e1 : a = [] := List.eq_nil_of_length_eq_zero h.symm
    have e2 : b = [] := List.eq_nil_of_length_eq_zero h'.symm
    subst e1 e2
    rw [cmpPm_nil, cmpPl_nil]
    simp [cmpI]
  | [], a, k' :: ks', b, h, h' => by
    rw [cmpPm_nil, cmpI_lt (by first | (simp; done) | (simp; omega))]
    simp
  | k :: ks, a, [], b, h, h' => by
    rw [cmpPm_nil', cmpI_gt (by first | (simp; done) | (simp; omega))]
    simp
  | k :: ks, x :: a, k' :: ks', y :: b, h, h' => by
    rw [cmpPm_cons, cmpPl_cons, lx_is_zero, lx_is_zero, lx_is_zero, cmpS_zero, cmpPm_zero (by simpa using h) (by simpa using h')]
    simp only [List.cons.injEq]
    constructor
    · rintro ⟨h1, h2, h3, h4⟩; exact ⟨⟨h1, h3⟩, h2, h4⟩
    · rintro ⟨⟨h1, h3⟩, h2, h4⟩; exact ⟨h1, h2, h3, h4⟩
  | _ :: _, [], _, _, h, _ => by simp at h
  | _ :: _, _ :: _, _ :: _, [], _, h' => by simp at h'
theorem isNum_mk (k n : Int) (f : Nat) (s : ByteArray) (ks : List ByteArray) (l : List GV) : isNum (.mk k n f s ks l) = (decide (k = 2) || decide (k = 3)) := rfl
theorem eqP_nums {x y : GV} (h : (isNum x && isNum y) = true) : eqP x y = (if x.kind = 2 ∧ y.kind = 2 then decide (x.n = y.n) else feq (asF x) (asF y)) := by
  cases x; cases y
  simp only [eqP]
  rw [if_pos h]
  rfl
theorem eqP_not {x y : GV} (h : (isNum x && isNum y) = false) : eqP x y = (decide (x.kind = y.kind) && (decide (x.n = y.n) && (decide (x.s = y.s) && (decide (x.keys = y.keys) && eqPs x.l y.l)))) := by
  cases x; cases y
  simp only [eqP]
  rw [if_neg (by rw [h]; simp)]
  rfl
theorem OG.kind_of {x : GV} (h : OG x) : (rankV x = 0 ∧ isNum x = true) ∨ (rankV x = 1 ∧ x.kind = 4 ∧ x.n = 0 ∧ x.keys = [] ∧ x.l = []) ∨ (rankV x = 2 ∧ x.kind = 1 ∧ x.s = ByteArray.empty ∧ x.keys = [] ∧ x.l = [])
    ∨ (rankV x = 3 ∧ x.kind = 5 ∧ x.n = 0 ∧ x.s = ByteArray.empty ∧ x.keys = []) ∨ (rankV x = 4 ∧ x.kind = 6 ∧ x.n = 0 ∧ x.s = ByteArray.empty) ∨ (rankV x = 5 ∧ x.kind = 0 ∧ x.n = 0 ∧ x.s = ByteArray.empty ∧ x.keys = [] ∧ x.l = []) := by
  obtain ⟨k, n, f, s, ks, l⟩ := x
  unfold OG at h
  obtain ⟨_, h⟩ := h
  rw [rank_mk, isNum_mk]
  rcases h with h | h | h | h | h | h | h <;> obtain ⟨rfl, h⟩ := h
  · exact .inr (.inr (.inr (.inr (.inr ⟨rfl, rfl, h⟩))))
  · exact .inr (.inr (.inl ⟨rfl, rfl, h⟩))
  · exact .inl ⟨rfl, rfl⟩
  · exact .inl ⟨rfl, rfl⟩
  · exact .inr (.inl ⟨rfl, rfl, h⟩)
  · exact .inr (.inr (.inr (.inl ⟨rfl, rfl, h⟩)))
  · exact .inr (.inr (.inr (.inr (.inl ⟨rfl, rfl, h.1, h.2.1⟩))))
theorem rank_num {x : GV} (h : isNum x = true) : rankV x = 0 := by
  cases x
  rw [isNum_mk] at h
  rw [rank_mk]
  simp at h
  rcases h with h | h <;> simp [h]
theorem eqP_iff (x y : GV) (hx : OG x) (hy : OG y) : eqP x y = true ↔ cmpP x y = 0 := by
  induction hk : SizeOf.sizeOf x using Nat.strongRecOn generalizing x y with
  | _ n IH =>
  subst hk
  rw [cmpP_lx, lx_is_zero, cmpI_zero]
  have ih : eqPs x.l y.l = true ↔ cmpPl x.l y.l = 0 := eqPs_iff fun a ha b hb => IH _ (sz_l ha) a b (hx.subs a ha) (hy.subs b hb) rfl
  cases hn : isNum x && isNum y with
  | true =>
    have hn' := hn
    simp only [Bool.and_eq_true] at hn'
    have r1 := rank_num hn'.1
    have r2 := rank_num hn'.2
    rw [eqP_nums hn, r1, r2]
    unfold bodyP
    rw [if_pos rfl]
    obtain ⟨_, _, a2, _⟩ := hx.num r1
    obtain ⟨_, _, b2, _⟩ := hy.num r2
    unfold cmpNu
    by_cases h : x.kind = 2 ∧ y.kind = 2
    · rw [if_pos h, if_pos h, cmpI_zero]
      simp
    · rw [if_neg h, if_neg h, feq_zero a2 b2]
      simp
  | false =>
    rw [eqP_not hn]
    simp only [Bool.and_eq_true, decide_eq_true_eq]
    by_cases hr : rankV x = rankV y
    · have key := hx.kind_of
      have key' := hy.kind_of
      rw [← hr] at key'
      rw [← hr]
      rcases key with ⟨h, h1⟩ | ⟨h, h1⟩ | ⟨h, h1⟩ | ⟨h, h1⟩ | ⟨h, h1⟩ | ⟨h, h1⟩
      · rw [h1] at hn
        have : isNum y = true := by
          rcases key' with ⟨h', h2⟩ | ⟨h', h2⟩ | ⟨h', h2⟩ | ⟨h', h2⟩ | ⟨h', h2⟩ | ⟨h', h2⟩
          · exact h2
          all_goals omega
        rw [this] at hn; cases hn
      all_goals
        rw [h] at key' ⊢
        unfold bodyP
        simp (config := { decide := true }) only [if_false, if_true]
      · obtain ⟨a1, a2, a3, a4⟩ := h1
        obtain ⟨b1, b2, b3, b4⟩ : y.kind = 4 ∧ y.n = 0 ∧ y.keys = [] ∧ y.l = [] := by
          rcases key' with ⟨h', h2⟩ | ⟨h', h2⟩ | ⟨h', h2⟩ | ⟨h', h2⟩ | ⟨h', h2⟩ | ⟨h', h2⟩ <;> first | exact h2 | omega
        rw [a1, a2, a3, a4, b1, b2, b3, b4, cmpS_zero]
        simp [eqPs]
      · obtain ⟨a1, a2, a3, a4⟩ := h1
        obtain ⟨b1, b2, b3, b4⟩ : y.kind = 1 ∧ y.s = ByteArray.empty ∧ y.keys = [] ∧ y.l = [] := by
          rcases key' with ⟨h', h2⟩ | ⟨h', h2⟩ | ⟨h', h2⟩ | ⟨h', h2⟩ | ⟨h', h2⟩ | ⟨h', h2⟩ <;> first | exact h2 | omega
        rw [a1, a2, a3, a4, b1, b2, b3, b4, cmpI_zero]
        simp [eqPs]
      · obtain ⟨a1, a2, a3, a4⟩ := h1
        obtain ⟨b1, b2, b3, b4⟩ : y.kind = 5 ∧ y.n = 0 ∧ y.s = ByteArray.empty ∧ y.keys = [] := by
          rcases key' with ⟨h', h2⟩ | ⟨h', h2⟩ | ⟨h', h2⟩ | ⟨h', h2⟩ | ⟨h', h2⟩ | ⟨h', h2⟩ <;> first | exact h2 | omega
        rw [a1, a2, a3, a4, b1, b2, b3, b4, ih]
        simp
      · obtain ⟨a1, a2, a3⟩ := h1
        obtain ⟨b1, b2, b3⟩ : y.kind = 6 ∧ y.n = 0 ∧ y.s = ByteArray.empty := by
          rcases key' with ⟨h', h2⟩ | ⟨h', h2⟩ | ⟨h', h2⟩ | ⟨h', h2⟩ | ⟨h', h2⟩ | ⟨h', h2⟩ <;> first | exact h2 | omega
        rw [a1, a2, a3, b1, b2, b3, ih, cmpPm_zero (hx.keys h).1 (hy.keys (hr ▸ h)).1]
        simp
      · obtain ⟨a1, a2, a3, a4, a5⟩ := h1
        obtain ⟨b1, b2, b3, b4, b5⟩ : y.kind = 0 ∧ y.n = 0 ∧ y.s = ByteArray.empty ∧ y.keys = [] ∧ y.l = [] := by
          rcases key' with ⟨h', h2⟩ | ⟨h', h2⟩ | ⟨h', h2⟩ | ⟨h', h2⟩ | ⟨h', h2⟩ | ⟨h', h2⟩ <;> first | exact h2 | omega
        rw [a1, a2, a3, a4, a5, b1, b2, b3, b4, b5]
        simp [eqPs]
    · constructor
      · rintro ⟨h, _⟩
        exfalso
        apply hr
        unfold rankV
        rw [h]
      · rintro ⟨h, _⟩; exact absurd h hr
theorem OG_un : ∀ j : JV, JOk j → ordV (unJ j) = true → OG (unJ j) := by
  intro j
  induction hk : SizeOf.sizeOf j using Nat.strongRecOn generalizing j with
  | _ n IH =>
  subst hk
  intro hj ho
  cases j with
  | list l =>
    unfold JOk at hj
    rw [show unJ (.list l) = .mk 5 0 0 ByteArray.empty [] (unJs l) by unfold unJ; rfl] at ho ⊢
    unfold OG
    have ho : ordL (unJs l) = true := by unfold ordV at ho; exact ho
    refine ⟨?_, .inr (.inr (.inr (.inr (.inr (.inl ⟨rfl, rfl, rfl, rfl⟩)))))⟩
    have : ∀ (r : List JV), (∀ y ∈ r, y ∈ l) → JOks r → ordL (unJs r) = true → OGs (unJs r) := by
      intro r
      induction r with
      | nil => intro _ _ _; simp only [unJs, OGs]
      | cons x r ih =>
        intro h hr hor
        simp only [JOks] at hr
        simp only [unJs, ordL, Bool.and_eq_true] at hor
        simp only [unJs, OGs]
        exact ⟨IH (SizeOf.sizeOf x) (by have := List.sizeOf_lt_of_mem (h x (by simp)); simp; omega) x rfl hr.1 hor.1, ih (fun y hy => h y (by simp [hy])) hr.2 hor.2⟩
    exact this l (fun _ h => h) hj.2 ho
  | map m =>
    unfold JOk at hj
    obtain ⟨ks, l, e, hi, hl, hk, hg⟩ := unM_form hj.1
    rw [show unJ (.map m) = unM m gMap by unfold unJ; rfl, e] at ho ⊢
    unfold OG
    have ho : ordL l = true := by unfold ordV at ho; exact ho
    refine ⟨?_, .inr (.inr (.inr (.inr (.inr (.inr ⟨rfl, rfl, rfl, hi, hl⟩)))))⟩
    refine OGs_of fun x hx => ?_
    have hox := ordL_iff.1 ho x hx
    obtain ⟨i, hi⟩ := List.getElem?_of_mem hx
    have hil := (List.getElem?_eq_some_iff.1 hi).1
    obtain ⟨k, hkk⟩ : ∃ k, ks[i]? = some k := ⟨_, List.getElem?_eq_getElem (by omega)⟩
    obtain ⟨j, hj1, hj2⟩ := (hg k x).1 ⟨i, hkk, hi⟩
    rw [← hj2] at hox ⊢
    have hm := getA_mem hj1
    refine IH (SizeOf.sizeOf j) ?_ j rfl (JOkm_mem hj.2.2 _ hm) hox
    have := List.sizeOf_lt_of_mem hm
    simp at this ⊢
    omega
  | null => rw [show unJ .null = .mk 0 0 0 ByteArray.empty [] [] by unfold unJ; rfl]; unfold OG; exact ⟨by simp only [OGs], .inl ⟨rfl, rfl, rfl, rfl, rfl⟩⟩
  | bool b => rw [show unJ (.bool b) = .mk 1 (if b then 1 else 0) 0 ByteArray.empty [] [] by unfold unJ; rfl]; unfold OG; exact ⟨by simp only [OGs], .inr (.inl ⟨rfl, rfl, rfl, rfl⟩)⟩
  | int b =>
    rw [show unJ (.int b) = .mk 2 b 0 ByteArray.empty [] [] by unfold unJ; rfl] at ho ⊢
    unfold OG
    have ho : (decide (-9007199254740992 ≤ b) && decide (b ≤ 9007199254740992)) = true := by unfold ordV at ho; exact ho
    simp only [Bool.and_eq_true, decide_eq_true_eq] at ho
    exact ⟨by simp only [OGs], .inr (.inr (.inl ⟨rfl, ho.1, ho.2⟩))⟩
  | flt b =>
    rw [show unJ (.flt b) = .mk 3 0 b ByteArray.empty [] [] by unfold unJ; rfl] at ho ⊢
    unfold OG
    have ho : feq b b = true := by unfold ordV at ho; exact ho
    exact ⟨by simp only [OGs], .inr (.inr (.inr (.inl ⟨rfl, ho⟩)))⟩
  | str b => rw [show unJ (.str b) = .mk 4 0 0 b [] [] by unfold unJ; rfl]; unfold OG; exact ⟨by simp only [OGs], .inr (.inr (.inr (.inr (.inl ⟨rfl, rfl, rfl, rfl⟩))))⟩
theorem putA_mem {k : ByteArray} {v : JV} : ∀ {m : List (ByteArray × JV)} {y : ByteArray × JV}, y ∈ putA m k v → y.2 = v ∨ y ∈ m
  | [], y, h => by simp [putA] at h; exact .inl (by rw [h])
  | x :: r, y, h => by
    simp only [putA] at h
    split at h
    · rcases List.mem_cons.1 h with rfl | h
      · exact .inl rfl
      · exact .inr (by simp [h])
    · rcases List.mem_cons.1 h with rfl | h
      · exact .inr (by simp)
      · rcases putA_mem h with h | h
        · exact .inl h
        · exact .inr (by simp [h])
theorem plainM_mem : ∀ (ks : List ByteArray) (l : List GV) (acc : List (ByteArray × JV)) (y : ByteArray × JV), y ∈ plainM ks l acc → y ∈ acc ∨ ∃ z ∈ l, y.2 = plainJ z
  | [], l, acc, y, h => by simp only [plainM] at h; exact .inl h
  | _ :: _, [], acc, y, h => by simp only [plainM] at h; exact .inl h
  | k :: ks, x :: l, acc, y, h => by
    simp only [plainM] at h
    rcases plainM_mem ks l _ y h with h | ⟨z, hz, e⟩
    · rcases putA_mem h with h | h
      · exact .inr ⟨x, by simp, h⟩
      · exact .inl h
    · exact .inr ⟨z, by simp [hz], e⟩
theorem ord_plain (x : GV) (ho : ordV x = true) : ordV (unJ (plainJ x)) = true := by
  induction hk : SizeOf.sizeOf x using Nat.strongRecOn generalizing x with
  | _ n IH =>
  subst hk
  obtain ⟨k, n, f, s, ks, l⟩ := x
  have ih : ∀ y ∈ l, ordV y = true → ordV (unJ (plainJ y)) = true := fun y hy h => IH _ (sz_l (x := .mk k n f s ks l) hy) y h rfl
  unfold ordV at ho
  unfold plainJ
  by_cases h1 : k = 1
  · rw [if_pos h1]; unfold unJ; rfl
  by_cases h2 : k = 2
  · rw [if_neg h1, if_pos h2]
    rw [if_pos h2] at ho
    unfold unJ ordV
    exact ho
  by_cases h3 : k = 3
  · rw [if_neg h1, if_neg h2, if_pos h3]
    rw [if_neg h2, if_pos h3] at ho
    unfold unJ ordV
    exact ho
  rw [if_neg h2, if_neg h3] at ho
  rw [if_neg h1, if_neg h2, if_neg h3]
  by_cases h4 : k = 4
  · rw [if_pos h4]; unfold unJ; rfl
  by_cases h5 : k = 5
  · rw [if_neg h4, if_pos h5]
    rw [if_pos h5] at ho
    rw [show unJ (.list (plainJs l)) = .mk 5 0 0 ByteArray.empty [] (unJs (plainJs l)) by unfold unJ; rfl]
    unfold ordV
    show ordL (unJs (plainJs l)) = true
    clear IH
    induction l with
    | nil => simp only [plainJs, unJs, ordL]
    | cons y r ihr =>
      simp only [ordL, Bool.and_eq_true] at ho
      simp only [plainJs, unJs, ordL, Bool.and_eq_true]
      exact ⟨ih y (by simp) ho.1, ihr (fun z hz => ih z (by simp [hz])) ho.2⟩
  by_cases h6 : k = 6
  · rw [if_neg h4, if_neg h5, if_pos h6]
    rw [if_neg h5, if_pos h6] at ho
    obtain ⟨ks', l', e, hi, hl, hkk, hg⟩ := unM_form (m := plainM ks l []) (unM_plainM ks l [] (fun y _ => un_plain y) (by simp)).2
    rw [show unJ (.map (plainM ks l [])) = unM (plainM ks l []) gMap by unfold unJ; rfl, e]
    unfold ordV
    show ordL l' = true
    refine ordL_iff.2 fun x hx => ?_
    obtain ⟨i, hi⟩ := List.getElem?_of_mem hx
    have hil := (List.getElem?_eq_some_iff.1 hi).1
    obtain ⟨k, hkk⟩ : ∃ k, ks'[i]? = some k := ⟨_, List.getElem?_eq_getElem (by omega)⟩
    obtain ⟨j, hj1, hj2⟩ := (hg k x).1 ⟨i, hkk, hi⟩
    rw [← hj2]
    rcases plainM_mem ks l [] _ (getA_mem hj1) with h | ⟨z, hz, e⟩
    · cases h
    · have e : j = plainJ z := e
      rw [e]
      exact ih z hz (ordL_iff.1 ho z hz)
  · rw [if_neg h4, if_neg h5, if_neg h6]; unfold unJ; rfl
theorem OG_clean {x : GV} (h : Fits (qV x)) (ho : ordV x = true) : OG (cleanV x) := by
  obtain ⟨w0, F0, v0, h0⟩ := h
  rw [← un_plain]
  exact OG_un _ (plain_ok x (IsV.gok x (rep_isV x (by rw [pdV_eq]; exact h0)))) (ord_plain x ho)
end Go.Proofs.Ytbbacpdbbmjblaa
end
section
set_option linter.unusedVariables false
namespace Go.Proofs.Ytbbacpdbbmjblaa
open Go.RowKit
set_option linter.unusedSimpArgs false
theorem listCompare_p (l q : List JV) : PCall Try.prog 67 [dvL l, dvL q] (.val (.int .i64 (cmpLs cmpJ l q))) := by
  have hC := lstCmp_p cmpJ l q (fun x _ y _ => cmp_p y x)
  generalize cmpLs cmpJ l q = c at *
  refine pcall_of_run Try.func67 rfl Try.ntmps67 rfl (fun X => ?_)
  repeat' (first
    | refine run_seq ?_
    | (refine k_pick rfl ?_; first | refine k_assignD rfl rfl ?_ | refine k_moveD rfl rfl ?_ | refine k_boxW rfl rfl rfl (by first | rfl | (simp only [cellsD]; rfl)) ?_ | refine k_build rfl rfl rfl ?_ | refine k_ifaceP rfl rfl (by kernel_rfl) ?_ | refine k_callZ gV rfl (by kernel_rfl) rfl (by first | exact hC) Flat.val ?_)
    | refine run_opsEnd ?_
    | refine run_region ?_
    | refine run_retOk (resOk_tmp rfl rfl ?_)
    | fail)
  all_goals exact PLe.refl _
theorem JOks_plain {l : List GV} (h : Fits (.sl 6 88 (pdVs l))) : JOks (plainJs l) := by
  obtain ⟨w, F, v, h⟩ := h
  unfold Rep at h
  obtain ⟨a, c, rfl, _, _, _, h⟩ := h
  refine plainJs_ok l fun y hy => ?_
  rcases h with h | ⟨b, o, _, _, hr⟩
  · cases l with
    | nil => cases hy
    | cons _ _ => unfold pdVs at h; cases h
  · exact plain_ok y (GOks_mem (IsVs.gok _ (repL_isVs l hr)) y hy)
theorem cmp_plains {a b : List GV} (ha : Fits (.sl 6 88 (pdVs a))) (hb : Fits (.sl 6 88 (pdVs b))) : cmpLs cmpJ (plainJs a) (plainJs b) = cmpPl (cleanL a) (cleanL b) := by
  have h1 := JOks_plain ha
  have h2 := JOks_plain hb
  rw [← unJs_plainJs a (fun y _ => un_plain y), ← unJs_plainJs b (fun y _ => un_plain y)]
  exact (cmp_list (plainJs b) (plainJs a) (fun y _ x hx hy => cmp_law y x hx hy) h1 h2).symm
theorem compareLists_p (a b : List GV) : PCall Try.prog 33 [.sl 6 88 (pdVs a), .sl 6 88 (pdVs b)] (.val (.int .i64 (cmpPl (cleanL a) (cleanL b)))) := by
  refine pcall_fits fun hf => ?_
  have e := cmp_plains (hf (.sl 6 88 (pdVs a)) (by simp)) (hf (.sl 6 88 (pdVs b)) (by simp))
  clear hf
  have c1 := toList_p a
  have c2 := toList_p b
  have c3 := listCompare_p (plainJs a) (plainJs b)
  rw [e] at c3
  clear e
  generalize cmpPl (cleanL a) (cleanL b) = c at *
  generalize plainJs a = ja at *
  generalize plainJs b = jb at *
  refine pcall_of_run Try.func33 rfl Try.ntmps33 rfl (fun X => ?_)
  repeat' (first
    | refine run_seq ?_
    | (refine k_pick rfl ?_; first | refine k_assignD rfl rfl ?_ | refine k_moveD rfl rfl ?_ | refine k_call rfl (by kernel_rfl) rfl (by first | exact c1 | exact c2 | exact c3) ?_)
    | refine run_opsEnd ?_
    | refine run_region ?_
    | refine run_retOk (resOk_tmp rfl rfl ?_)
    | fail)
  all_goals exact PLe.refl _
theorem cmp_plain {x y : GV} (hx : Fits (qV x)) (hy : Fits (qV y)) : cmpJ (plainJ x) (plainJ y) = cmpP (cleanV x) (cleanV y) := by
  obtain ⟨w0, F0, v0, h0⟩ := hx
  obtain ⟨w1, F1, v1, h1⟩ := hy
  rw [← cmp_law _ _ (plain_ok x (IsV.gok x (rep_isV x (by rw [pdV_eq]; exact h0)))) (plain_ok y (IsV.gok y (rep_isV y (by rw [pdV_eq]; exact h1)))), un_plain, un_plain]
theorem implCmp_p (x y : GV) : PCall Try.prog 30 [qV x, qV y] (.val (.int .i64 (cmpP (cleanV x) (cleanV y)))) := by
  refine pcall_fits fun hf => ?_
  have e := cmp_plain (hf (qV x) (by simp)) (hf (qV y) (by simp))
  clear hf
  have c1 := toValue_p x
  have c2 := toValue_p y
  have c3 := compare_p (plainJ x) (plainJ y)
  rw [e] at c3
  generalize cmpP (cleanV x) (cleanV y) = c at *
  clear e
  generalize plainJ x = jx at *
  generalize plainJ y = jy at *
  refine pcall_of_run Try.func30 rfl Try.ntmps30 rfl (fun X => ?_)
  repeat' (first
    | refine run_seq ?_
    | (refine k_pick rfl ?_; first | refine k_assignD rfl rfl ?_ | refine k_boxW rfl rfl rfl (by first | rfl | (simp only [cellsD]; rfl)) ?_)
    | refine run_opsEnd ?_
    | refine run_region ?_
    | refine run_retOk (resOk_tmp rfl rfl ?_)
    | refine run_drawC (by kernel_rfl) ?_
    | refine c_nil (And.intro (by kernel_rfl) ?_)
    | refine c_pick (d_assignD rfl rfl) ?_
    | refine c_pick (d_loadW rfl rfl rfl (by first | rfl | (simp only [cellsD]; rfl))) ?_
    | refine c_pick (d_call rfl (by kernel_rfl) rfl (by first | exact c1 | exact c2 | exact c3)) ?_
    | fail)
  all_goals exact PLe.refl _
end Go.Proofs.Ytbbacpdbbmjblaa
end
section
namespace Go.Proofs.Ytbbacpdbbmjblaa
open Go.RowKit
set_option linter.unusedSimpArgs false
set_option maxHeartbeats 1000000 in
set_option maxRecDepth 100000 in
theorem ordVals_any (l : List GV) (w : World) (a1 : Option Addr) (c1 : Nat) (hl88 : l.length * 88 ≤ 140737488351232) (hl : l = [] ∨ ∃ b o, Btw 0 w.heap.size b ∧ a1 = some ⟨b, o, none⟩ ∧ IsVs w (Btw 0 w.heap.size) l b o) :
    Calls Try.prog 19 #[.slice a1 l.length c1] w fun e w' => e = .returned (.bool (ordL l)) ∧ Below w.heap.size w w' := by
  go_enter Try.func19, Try.ntmps19
  go_wp2_with fail
  go_loopw [7] (fun i wr => ∃ k : Nat, k ≤ l.length ∧ i = .int .i64 (k : Nat) ∧ Below w.heap.size w wr ∧ ∀ y ∈ l.take k, ordV y = true) (fun i _ => l.length - (intOf i).toNat)
  case atStart => exact ⟨0, Nat.zero_le _, rfl, Below.refl _ _, by simp⟩
  case round =>
    obtain ⟨k, hk, rfl, hB, hall⟩ := hrel
    by_cases hlt : k < l.length
    · obtain ⟨b, o, hb, rfl, hcells⟩ := vals_at hl (by omega)
      obtain ⟨y, hy⟩ : ∃ y, l[k]? = some y := ⟨l[k], by simp [hlt]⟩
      obtain ⟨e0, f0, e1, f1, g0, g1, g2, g3, g4, g5, hyv⟩ := (IsVs.keep (S' := Btw 0 wr.heap.size) (Btw.kept hB) (Btw.mono (Nat.le_refl _) hB.size) l b o hb hcells).cells hy
      have hc := ord_any y
      have hyA := hyv.alloc_ (.cells #[.int .i64 y.kind, .int .i64 y.n, .float .f64 y.f, .string y.s, .slice e0 y.keys.length f0, .slice e1 y.l.length f1] 43)
      have HY := Lib.hid (And.intro hy (And.intro hall hB))
      have j0 : (0 : Int) ≤ (k : Int) := by omega
      have j1 : (k : Int) < (l.length : Int) := by omega
      have hs := hB.size
      clear hy hall hB hcells hyv
      go_wp2_with (go_at_call 16; (with_reducible refine (hc.use _ _ ?_).mono ?_))
      · simpa using hyA
      rintro e w2 ⟨rfl, hB2'⟩
      obtain ⟨hy, hall, hB⟩ := HY.out
      have hB2 : Below w.heap.size w w2 := (hB.alloc hs (.cells #[.int .i64 y.kind, .int .i64 y.n, .float .f64 y.f, .string y.s, .slice e0 y.keys.length f0, .slice e1 y.l.length f1] 43)).trans (hB2'.mono (by simp; omega))
      clear g0 g1 g2 g3 g4 g5 hyA hc HY hB2'
      cases ho : ordV y with
      | false =>
        have hf : ordL l = false := by
          cases h : ordL l with
          | false => rfl
          | true => rw [ordL_iff.1 h y (List.mem_of_getElem? hy)] at ho; cases ho
        go_wp2_with fail
        go_ret
        rw [hf]
        exact ⟨rfl, hB2⟩
      | true =>
        have HF := Lib.hid (show ∀ z ∈ l.take (k + 1), ordV z = true from fun z hz => by
          rw [List.take_add_one, hy] at hz
          rcases List.mem_append.1 hz with hz | hz
          · exact hall z hz
          · simp at hz; subst hz; exact ho)
        clear hall hy hB
        go_wp2_with fail
        go_roundw
        case rel => exact ⟨k + 1, hlt, by go_num, hB2, HF.out⟩
        case measure => simp [intOf]; omega
    · have hkl : k = l.length := by omega
      subst hkl
      have ht : ordL l = true := ordL_iff.2 (by rw [List.take_length] at hall; exact hall)
      have HT := Lib.hid ht
      clear ht hall
      go_wp2_with fail
      go_ret
      rw [HT.out]
      exact ⟨rfl, hB⟩
end Go.Proofs.Ytbbacpdbbmjblaa
end
section
set_option linter.unusedVariables false
namespace Go.Proofs.Ytbbacpdbbmjblaa
open Go.RowKit
set_option linter.unusedSimpArgs false
theorem ordVals_q (l : List GV) : PCall Try.prog 19 [.sl 6 88 (pdVs l)] (.val (.bool (ordL l))) := by
  intro w F vs hF hv
  unfold Reps at hv
  obtain ⟨v, r', rfl, hx, hr⟩ := hv
  unfold Reps at hr
  subst hr
  unfold Rep at hx
  rw [pdVs_len] at hx
  obtain ⟨a, c, rfl, h1, h2, h3, h4⟩ := hx
  refine (ordVals_any l w a c h2 ?_).mono ?_
  · rcases h4 with h4 | ⟨b, o, hb, rfl, hr⟩
    · left
      cases l with
      | nil => rfl
      | cons _ _ => unfold pdVs at h4; cases h4
    · exact .inr ⟨b, o, ⟨Nat.zero_le _, hF b hb⟩, rfl, IsVs.keep (fun _ _ => rfl) (fun b hb => ⟨Nat.zero_le _, hF b hb⟩) l b o hb (repL_isVs l hr)⟩
  · rintro e w' ⟨he, hb⟩
    exact ⟨_, he, hb, by unfold Rep; exact ⟨rfl, trivial⟩⟩
end Go.Proofs.Ytbbacpdbbmjblaa
end
section
set_option linter.unusedVariables false
namespace Go.Proofs.Ytbbacpdbbmjblaa
open Go.RowKit
set_option linter.unusedSimpArgs false
set_option maxHeartbeats 8000000 in
theorem listEq_dvL (l1 l2 : List JV) (hE : ∀ x ∈ l1, ∀ y ∈ l2, PCall Try.prog 79 [dvA, dvV x, dvV y] (.val (.bool (eqJ x y)))) : PCall Try.prog 94 [dvA, dvL l1, dvL l2] (.val (.bool (eqJs l1 l2))) := by
  refine PCall.ex fun w F vs hvs => ?_
  have hlen : l2.length * 16 ≤ 140737488351232 := by
    unfold Reps at hvs; obtain ⟨_, _, _, _, hvs⟩ := hvs
    unfold Reps at hvs; obtain ⟨_, _, _, _, hvs⟩ := hvs
    unfold Reps at hvs; obtain ⟨_, _, _, hv, _⟩ := hvs
    unfold dvL Rep at hv; obtain ⟨_, _, hv⟩ := hv
    exact dvLs_len hv
  clear hvs vs F w
  refine pcall_of_run Try.func94 rfl Try.ntmps94 rfl (fun X => ?_)
  by_cases hl : l1.length = l2.length
  · have hq0 : decide (((l1.length : Nat) : Int) ≠ ((l2.length : Nat) : Int)) = false := by simp; omega
    by_cases hn : l1 = []
    · subst hn
      have hn2 : l2 = [] := List.eq_nil_of_length_eq_zero hl.symm
      subst hn2
      repeat' (first
    | refine run_seq ?_
    | (refine k_pick rfl ?_; first | refine k_assignD rfl rfl ?_ | refine k_moveD rfl rfl ?_ | refine k_bin2B rfl rfl rfl rfl ?_ | refine k_invS rfl rfl (by kernel_rfl) rfl (by first | exact lenL_p _ | exact rangeNil_p | exact emptyNext_p) ?_ | refine k_nilI rfl rfl ?_ | refine k_deferA rfl free_idle ?_)
    | refine run_opsEnd ?_
    | refine run_region ?_
    | refine run_condF rfl (by first | rfl | assumption) ?_
    | refine run_block ?_
    | refine run_skip ?_
    | fail)
      refine run_loopS (ι := Unit) (fun _ => [(7, .dat dvE), (8, .dat dvE)]) (fun _ => []) (fun _ => 0) () id ?_ (fun _ => ?_)
      · (refine ⟨?_, ?_, by rfl⟩ <;> repeat' (first | exact trivial | exact ALe.ptr rfl | exact ALe.own rfl | exact ALe.elt rfl | exact BLe.boxD _ _ | exact BLe.row rfl | exact BLe.res | exact BLe.dead rfl | exact ALe.dat (PLe.refl _) | exact CLe.nil | refine And.intro ?_ ?_ | refine ALe.iface ?_ | refine ALe.clo ?_ | refine CLe.cons ?_ ?_ | refine BLe.box ?_ | refine BLe.row ?_ | exact ALe.any _ | refine ALe.dat (PLe.of_eq ?_)))
      repeat' (first
    | refine run_seq ?_
    | (refine k_pick rfl ?_; first | refine k_assignD rfl rfl ?_ | refine k_moveD rfl rfl ?_ | refine k_pickF rfl rfl (by first | rfl | assumption) rfl ?_ | refine k_invS rfl rfl (by kernel_rfl) rfl (by first | exact emptyNext_p) ?_)
    | refine run_opsEnd ?_
    | refine run_region ?_
    | refine run_condF rfl (by first | rfl | assumption) ?_
    | refine k_guardNT rfl rfl (by first | rfl | assumption) rfl ?_
    | refine run_exit rfl ?_
    | refine run_retOk (resOk_tmp rfl rfl ?_)
    | fail)
      all_goals exact PLe.of_eq (by unfold eqJs; rfl)
    · have hn2 : l2 ≠ [] := fun e => hn (List.eq_nil_of_length_eq_zero (by rw [hl, e]; rfl))
      repeat' (first
    | refine run_seq ?_
    | (refine k_pick rfl ?_; first | refine k_assignD rfl rfl ?_ | refine k_moveD rfl rfl ?_ | refine k_bin2B rfl rfl rfl rfl ?_ | refine k_invAS1 (thk [] 200) rfl rfl (by kernel_rfl) (rangeCons_c _ hn) rfl trivial rfl (freshB_ok rfl) rfl ?_ | refine k_invAS1 (thk [] 350) rfl rfl (by kernel_rfl) (rangeCons_c _ hn2) rfl trivial rfl (freshB_ok rfl) rfl ?_ | refine k_invS rfl rfl (by kernel_rfl) rfl (by first | exact lenL_p _) ?_ | refine k_nilI rfl rfl ?_ | refine k_assignI rfl rfl ?_ | refine k_moveI rfl rfl ?_ | refine k_deferA rfl free_idle ?_)
    | refine run_opsEnd ?_
    | refine run_region ?_
    | refine run_condF rfl (by first | rfl | assumption) ?_
    | refine run_block ?_
    | refine run_skip ?_
    | fail)
      refine run_loopS (ι := { k : Nat // k ≤ l1.length ∧ ∀ i x y, i < k → l1[i]? = some x → l2[i]? = some y → eqJ x y = true })
        (fun k => [(0, .dat dvA), (7, .iface 253 (.ptr 200 0)), (8, .iface 253 (.ptr 350 0))])
        (fun k => [(200, .box 255 [.dat (dvLs l1), .ptr 201 0, .dat (.val (.int .i64 ((k.1 : Nat) - 1 : Int)))]), (201, .box 173 [.any]),
          (350, .box 255 [.dat (dvLs l2), .ptr 351 0, .dat (.val (.int .i64 ((k.1 : Nat) - 1 : Int)))]), (351, .box 173 [.any])])
        (fun k => l1.length - k.1) ⟨0, Nat.zero_le _, fun i _ _ h => absurd h (Nat.not_lt_zero i)⟩ id ?_ ?_
      · (refine ⟨?_, ?_, by rfl⟩ <;> repeat' (first | exact trivial | exact ALe.ptr rfl | exact ALe.own rfl | exact ALe.elt rfl | exact BLe.boxD _ _ | exact BLe.row rfl | exact BLe.res | exact BLe.dead rfl | exact ALe.dat (PLe.refl _) | exact CLe.nil | refine And.intro ?_ ?_ | refine ALe.iface ?_ | refine ALe.clo ?_ | refine CLe.cons ?_ ?_ | refine BLe.box ?_ | refine BLe.row ?_ | exact ALe.any _ | refine ALe.dat (PLe.of_eq ?_)))
      rintro ⟨k, hk, hall⟩
      by_cases hlt : k < l1.length
      · have hq1 : decide ((k : Int) < (l1.length : Int)) = true := by simpa using hlt
        have hq2 : decide ((k : Int) < (l2.length : Int)) = true := by rw [hl] at hlt; simpa using hlt
        obtain ⟨x, hx⟩ : ∃ x, l1[k]? = some x := ⟨_, List.getElem?_eq_getElem hlt⟩
        obtain ⟨y, hy⟩ : ∃ y, l2[k]? = some y := ⟨_, List.getElem?_eq_getElem (hl ▸ hlt)⟩
        have hC := hE x (List.mem_of_getElem? hx) y (List.mem_of_getElem? hy)
        cases hr : eqJ x y with
        | true =>
          rw [hr] at hC
          repeat' (first
    | refine run_seq ?_
    | (refine k_pick rfl ?_; first | refine k_assignD rfl rfl ?_ | refine k_moveD rfl rfl ?_ | refine k_pickT rfl rfl (by first | rfl | assumption) rfl ?_ | refine k_not rfl rfl ?_ | refine k_invAS1 (thk [(1000, _), (1001, _)] 200) rfl rfl (by kernel_rfl) (next_c l1 k (by omega)) rfl ⟨rfl, ⟨rfl, trivial⟩⟩ rfl (freshB_ok rfl) rfl ?_ | refine k_invAS1 (thk [(1000, _), (1001, _)] 200) rfl rfl (by kernel_rfl) (item_c l1 k x hx) rfl ⟨rfl, ⟨rfl, trivial⟩⟩ rfl (freshB_ok rfl) rfl ?_ | refine k_invAS1 (thk [(1000, _), (1001, _)] 200) rfl rfl (by kernel_rfl) (item_c l2 k y hy) rfl ⟨rfl, ⟨rfl, trivial⟩⟩ rfl (freshB_ok rfl) rfl ?_ | refine k_assignI rfl rfl ?_ | refine k_moveI rfl rfl ?_ | refine k_moveT rfl rfl ?_ | refine k_extractI rfl rfl rfl ?_ | refine k_extractD rfl rfl rfl ?_ | refine k_callZ gV rfl (by kernel_rfl) rfl (by first | exact hC) Flat.val ?_)
    | refine run_opsEnd ?_
    | refine run_region ?_
    | refine run_condT rfl (by first | rfl | assumption) ?_
    | refine run_condF rfl (by first | rfl | assumption) ?_
    | (refine k_guardY rfl rfl (by first | rfl | assumption) ?_; first | refine k_invAS1 (thk [(1000, _), (1001, _)] 200) rfl rfl (by kernel_rfl) (next_c l2 k (by omega)) rfl ⟨rfl, ⟨rfl, trivial⟩⟩ rfl (freshB_ok rfl) rfl ?_ | refine k_moveI rfl rfl ?_)
    | refine run_block ?_
    | refine run_blkEnd ?_
    | refine run_skip ?_
    | fail)
          refine run_again ?_
          refine ⟨⟨k + 1, by omega, ?_⟩, id, by simp only; omega, ?_⟩
          · intro i x' y' hi hx' hy'
            by_cases e : i = k
            · subst e
              rw [hx] at hx'; rw [hy] at hy'
              cases hx'; cases hy'
              exact hr
            · exact hall i x' y' (by omega) hx' hy'
          (refine ⟨?_, ?_, by rfl⟩ <;> repeat' (first | exact trivial | exact ALe.ptr rfl | exact ALe.own rfl | exact ALe.elt rfl | exact BLe.boxD _ _ | exact BLe.row rfl | exact BLe.res | exact BLe.dead rfl | exact ALe.dat (PLe.refl _) | exact CLe.nil | refine And.intro ?_ ?_ | refine ALe.iface ?_ | refine ALe.clo ?_ | refine CLe.cons ?_ ?_ | refine BLe.box ?_ | refine BLe.row ?_ | exact ALe.any _ | refine ALe.dat (PLe.of_eq ?_)))
          all_goals (rw [show (((k + 1 : Nat) : Int) - 1) = k by omega])
        | false =>
          rw [hr] at hC
          rw [eqJs_false hx hy hr]
          repeat' (first
    | refine run_seq ?_
    | (refine k_pick rfl ?_; first | refine k_assignD rfl rfl ?_ | refine k_moveD rfl rfl ?_ | refine k_pickT rfl rfl (by first | rfl | assumption) rfl ?_ | refine k_not rfl rfl ?_ | refine k_invAS1 (thk [(1000, _), (1001, _)] 200) rfl rfl (by kernel_rfl) (next_c l1 k (by omega)) rfl ⟨rfl, ⟨rfl, trivial⟩⟩ rfl (freshB_ok rfl) rfl ?_ | refine k_invAS1 (thk [(1000, _), (1001, _)] 200) rfl rfl (by kernel_rfl) (item_c l1 k x hx) rfl ⟨rfl, ⟨rfl, trivial⟩⟩ rfl (freshB_ok rfl) rfl ?_ | refine k_invAS1 (thk [(1000, _), (1001, _)] 200) rfl rfl (by kernel_rfl) (item_c l2 k y hy) rfl ⟨rfl, ⟨rfl, trivial⟩⟩ rfl (freshB_ok rfl) rfl ?_ | refine k_assignI rfl rfl ?_ | refine k_moveI rfl rfl ?_ | refine k_moveT rfl rfl ?_ | refine k_extractI rfl rfl rfl ?_ | refine k_extractD rfl rfl rfl ?_ | refine k_callZ gV rfl (by kernel_rfl) rfl (by first | exact hC) Flat.val ?_)
    | refine run_opsEnd ?_
    | refine run_region ?_
    | refine run_condT rfl (by first | rfl | assumption) ?_
    | (refine k_guardY rfl rfl (by first | rfl | assumption) ?_; first | refine k_invAS1 (thk [(1000, _), (1001, _)] 200) rfl rfl (by kernel_rfl) (next_c l2 k (by omega)) rfl ⟨rfl, ⟨rfl, trivial⟩⟩ rfl (freshB_ok rfl) rfl ?_ | refine k_moveI rfl rfl ?_)
    | refine run_block ?_
    | refine run_skip ?_
    | refine run_retOk (resOk_tmp rfl rfl ?_)
    | fail)
          all_goals exact PLe.refl _
      · have hq1 : decide ((k : Int) < (l1.length : Int)) = false := by simpa using hlt
        rw [eqJs_true hl (fun i x y hx hy => hall i x y (by have := (List.getElem?_eq_some_iff.1 hx).1; omega) hx hy)]
        repeat' (first
    | refine run_seq ?_
    | (refine k_pick rfl ?_; first | refine k_assignD rfl rfl ?_ | refine k_moveD rfl rfl ?_ | refine k_pickF rfl rfl (by first | rfl | assumption) rfl ?_ | refine k_invAS1 (thk [(1000, _), (1001, _)] 200) rfl rfl (by kernel_rfl) (next_c l1 k (by omega)) rfl ⟨rfl, ⟨rfl, trivial⟩⟩ rfl (freshB_ok rfl) rfl ?_ | refine k_moveI rfl rfl ?_)
    | refine run_opsEnd ?_
    | refine run_region ?_
    | refine run_condF rfl (by first | rfl | assumption) ?_
    | refine k_guardNT rfl rfl (by first | rfl | assumption) rfl ?_
    | refine run_exit rfl ?_
    | refine run_retOk (resOk_tmp rfl rfl ?_)
    | fail)
        all_goals exact PLe.refl _
  · have hq0 : decide (((l1.length : Nat) : Int) ≠ ((l2.length : Nat) : Int)) = true := by simp; omega
    have e : eqJs l1 l2 = false := by
      cases h : eqJs l1 l2 with
      | false => rfl
      | true => exact absurd (eqJs_len h) hl
    rw [e]
    repeat' (first
    | refine run_seq ?_
    | (refine k_pick rfl ?_; first | refine k_assignD rfl rfl ?_ | refine k_moveD rfl rfl ?_ | refine k_bin2B rfl rfl rfl rfl ?_ | refine k_invS rfl rfl (by kernel_rfl) rfl (by first | exact lenL_p _) ?_)
    | refine run_opsEnd ?_
    | refine run_region ?_
    | refine run_condT rfl (by first | rfl | assumption) ?_
    | refine run_retOk (resOk_tmp rfl rfl ?_)
    | fail)
    all_goals exact PLe.refl _
end Go.Proofs.Ytbbacpdbbmjblaa
end
