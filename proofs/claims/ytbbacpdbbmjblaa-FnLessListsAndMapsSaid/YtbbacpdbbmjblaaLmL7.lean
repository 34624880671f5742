/- Part 7 of what the proof rests on. -/
import Derived.ProofKit
import Derived.SizedLaws
import Derived.Test.YtbbacpdbbmjblaaLmL3
import Derived.Test.YtbbacpdbbmjblaaLmL4
import Derived.Test.YtbbacpdbbmjblaaLmL5
import Derived.Test.YtbbacpdbbmjblaaLmL6
section
set_option linter.unusedVariables false
namespace Go.Proofs.Ytbbacpdbbmjblaa
open Go.RowKit
set_option linter.unusedSimpArgs false
set_option maxHeartbeats 4000000 in
theorem sMaps_p (k n : Int) (f : Nat) (s : ByteArray) (ks : List ByteArray) (l : List GV) (k' n' : Int) (f' : Nat) (s' : ByteArray) (ks' : List ByteArray) (l' : List GV) (hL : ks.length ≤ l.length) (hL' : ks'.length ≤ l'.length) (ih : ∀ a ∈ l, ∀ b ∈ l', PCall Try.prog 66 [qV a, qV b] (.val (.int .i64 (cmpP a b)))) :
    PCall Try.prog 55 [qV (.mk k n f s ks l), qV (.mk k' n' f' s' ks' l')] (.val (.int .i64 (cmpPm ks l ks' l'))) := by
  refine pcall_fits fun hfit => ?_
  have b1 := (Fits.aggAt (hfit (qV (.mk k n f s ks l)) (by simp)) 4 (d := .sl 1 16 (pdS ks)) rfl).sl.2.1
  rw [pdS_len] at b1
  clear hfit
  have hlk := pdS_len ks
  have hlk' := pdS_len ks'
  have cI := sInts_p (((pdS ks).length : Nat) : Int) (((pdS ks').length : Nat) : Int)
  refine pcall_of_run Try.func55 rfl Try.ntmps55 rfl (fun X => ?_)
  repeat' (first
    | refine run_seq ?_
    | (refine k_pick rfl ?_; first | refine k_assignD rfl rfl ?_ | refine k_boxW rfl rfl rfl (by first | rfl | (simp only [cellsD]; rfl)) ?_)
    | refine run_opsEnd ?_
    | refine run_region ?_
    | refine run_block ?_
    | fail)
  refine run_loopS (ι := { j : Nat // (j ≤ ks.length ∧ j ≤ ks'.length) ∧ ∀ i u v x y, i < j → ks[i]? = some u → ks'[i]? = some v → l[i]? = some x → l'[i]? = some y → cmpS u v = 0 ∧ cmpP x y = 0 })
    (fun j => [(2, .ptr 2 0), (3, .ptr 3 0), (5, .dat (.val (.int .i64 (j.1 : Nat))))])
    (fun _ => [(2, .box 43 (cellsD (qV (.mk k n f s ks l)))), (3, .box 43 (cellsD (qV (.mk k' n' f' s' ks' l'))))]) (fun j => ks.length - j.1) ⟨0, ⟨Nat.zero_le _, Nat.zero_le _⟩, fun i _ _ _ _ h => absurd h (Nat.not_lt_zero i)⟩ id ?_ ?_
  · (refine ⟨?_, ?_, by rfl⟩ <;> repeat' (first | exact trivial | exact ALe.ptr rfl | exact ALe.own rfl | exact ALe.elt rfl | exact BLe.boxD _ _ | exact BLe.row rfl | exact BLe.res | exact BLe.dead rfl | exact ALe.dat (PLe.refl _) | exact CLe.nil | refine And.intro ?_ ?_ | refine ALe.iface ?_ | refine ALe.clo ?_ | refine CLe.cons ?_ ?_ | refine BLe.box ?_ | refine BLe.row ?_ | exact ALe.any _ | refine ALe.dat (PLe.of_eq ?_)))
  rintro ⟨j, ⟨hj, hj'⟩, hall⟩
  have hend : j = ks.length ∨ j = ks'.length → cmpPm ks l ks' l' = cmpI (((pdS ks).length : Nat) : Int) (((pdS ks').length : Nat) : Int) := fun h => by
    rw [hlk, hlk']
    exact cmpPm_end hL hL' (fun i u v x y hu hv => hall i u v x y (by
      have := (List.getElem?_eq_some_iff.1 hu).1
      have := (List.getElem?_eq_some_iff.1 hv).1
      omega) hu hv)
  by_cases hlt : j < ks.length
  · have g1 : decide ((j : Int) < (((pdS ks).length : Nat) : Int)) = true := decide_eq_true (by omega)
    by_cases hlt' : j < ks'.length
    · have g2 : decide ((j : Int) < (((pdS ks').length : Nat) : Int)) = true := decide_eq_true (by omega)
      obtain ⟨u, hu⟩ : ∃ u, ks[j]? = some u := ⟨_, List.getElem?_eq_getElem hlt⟩
      obtain ⟨v, hv⟩ : ∃ v, ks'[j]? = some v := ⟨_, List.getElem?_eq_getElem hlt'⟩
      obtain ⟨x, hx⟩ : ∃ x, l[j]? = some x := ⟨_, List.getElem?_eq_getElem (by omega)⟩
      obtain ⟨y, hy⟩ : ∃ y, l'[j]? = some y := ⟨_, List.getElem?_eq_getElem (by omega)⟩
      have k1 : (pdS ks)[((j : Nat) : Int).toNat]? = some (.val (.string u)) := pdS_at hu
      have k2 : (pdS ks')[((j : Nat) : Int).toNat]? = some (.val (.string v)) := pdS_at hv
      have i1 : (pdVs l)[((j : Nat) : Int).toNat]? = some (qV x) := by rw [show qV x = pdV x from (pdV_eq x).symm]; exact pdVs_at hx
      have i2 : (pdVs l')[((j : Nat) : Int).toNat]? = some (qV y) := by rw [show qV y = pdV y from (pdV_eq y).symm]; exact pdVs_at hy
      have hC := ih x (List.mem_of_getElem? hx) y (List.mem_of_getElem? hy)
      have hS := sStrs_p u v
      by_cases hs : cmpS u v = 0
      · have g3 : decide (cmpS u v ≠ 0) = false := decide_eq_false (by simp [hs])
        by_cases hr : cmpP x y = 0
        · have g4 : decide (cmpP x y ≠ 0) = false := decide_eq_false (by simp [hr])
          repeat' (first
    | refine run_seq ?_
    | (refine k_pick rfl ?_; first | refine k_assignD rfl rfl ?_ | refine k_moveD rfl rfl ?_ | refine k_fieldAddrB rfl rfl rfl ?_ | refine k_loadBD rfl rfl rfl (by first | rfl | (simp only [cellsD]; rfl)) ?_ | refine k_bin2B rfl rfl rfl rfl ?_ | refine k_pickT rfl rfl (by first | rfl | assumption) rfl ?_ | refine k_lenD rfl rfl ?_ | refine k_ariI rfl rfl rfl rfl (by first | omega | (dsimp only; omega)) ?_)
    | refine run_opsEnd ?_
    | refine run_region ?_
    | refine run_condT rfl (by first | rfl | assumption) ?_
    | refine run_condF rfl (by first | rfl | assumption) ?_
    | (refine k_guardY rfl rfl (by first | rfl | assumption) ?_; first | refine k_moveD rfl rfl ?_ | refine k_fieldAddrB rfl rfl rfl ?_ | refine k_loadBD rfl rfl rfl (by first | rfl | (simp only [cellsD]; rfl)) ?_ | refine k_bin2B rfl rfl rfl rfl ?_ | refine k_lenD rfl rfl ?_)
    | refine run_block ?_
    | refine run_blkEnd ?_
    | refine run_skip ?_
    | refine run_drawC (by kernel_rfl) ?_
    | refine c_nil (And.intro (by kernel_rfl) ?_)
    | refine c_pick (d_indexAddrD rfl rfl rfl (by first | omega | (dsimp only; omega)) (by assumption)) ?_
    | refine c_pick (d_assignD rfl rfl) ?_
    | refine c_pick (d_moveD rfl rfl) ?_
    | refine c_pick (d_fieldAddrB rfl rfl rfl) ?_
    | refine c_pick (d_loadBD rfl rfl rfl (by first | rfl | (simp only [cellsD]; rfl))) ?_
    | refine c_pick (d_call rfl (by kernel_rfl) rfl (by first | exact hC | exact hS)) ?_
    | refine c_pick (d_loadD rfl rfl (by first | rfl | (simp only [cellsD]; rfl))) ?_
    | fail)
          refine run_again ?_
          refine ⟨⟨j + 1, ⟨by omega, by omega⟩, fun i u' v' x' y' hi hu' hv' hx' hy' => ?_⟩, id, by simp only; omega, ?_⟩
          · by_cases e : i = j
            · subst e
              rw [hu] at hu'; rw [hv] at hv'
              rw [hx] at hx'; rw [hy] at hy'
              cases hu'; cases hv'
              cases hx'; cases hy'
              exact ⟨hs, hr⟩
            · exact hall i u' v' x' y' (by omega) hu' hv' hx' hy'
          (refine ⟨?_, ?_, by rfl⟩ <;> repeat' (first | exact trivial | exact ALe.ptr rfl | exact ALe.own rfl | exact ALe.elt rfl | exact BLe.boxD _ _ | exact BLe.row rfl | exact BLe.res | exact BLe.dead rfl | exact ALe.dat (PLe.refl _) | exact CLe.nil | refine And.intro ?_ ?_ | refine ALe.iface ?_ | refine ALe.clo ?_ | refine CLe.cons ?_ ?_ | refine BLe.box ?_ | refine BLe.row ?_ | exact ALe.any _ | refine ALe.dat (PLe.of_eq ?_)))
        · have g4 : decide (cmpP x y ≠ 0) = true := decide_eq_true hr
          rw [cmpPm_ne2 hL hL' (fun i u v x y hi => hall i u v x y hi) hu hv hx hy hs hr]
          repeat' (first
    | refine run_seq ?_
    | (refine k_pick rfl ?_; first | refine k_assignD rfl rfl ?_ | refine k_moveD rfl rfl ?_ | refine k_fieldAddrB rfl rfl rfl ?_ | refine k_loadBD rfl rfl rfl (by first | rfl | (simp only [cellsD]; rfl)) ?_ | refine k_bin2B rfl rfl rfl rfl ?_ | refine k_pickT rfl rfl (by first | rfl | assumption) rfl ?_ | refine k_lenD rfl rfl ?_)
    | refine run_opsEnd ?_
    | refine run_region ?_
    | refine run_condT rfl (by first | rfl | assumption) ?_
    | refine run_condF rfl (by first | rfl | assumption) ?_
    | (refine k_guardY rfl rfl (by first | rfl | assumption) ?_; first | refine k_moveD rfl rfl ?_ | refine k_fieldAddrB rfl rfl rfl ?_ | refine k_loadBD rfl rfl rfl (by first | rfl | (simp only [cellsD]; rfl)) ?_ | refine k_bin2B rfl rfl rfl rfl ?_ | refine k_lenD rfl rfl ?_)
    | refine run_block ?_
    | refine run_skip ?_
    | refine run_retOk (resOk_tmp rfl rfl ?_)
    | refine run_drawC (by kernel_rfl) ?_
    | refine c_nil (And.intro (by kernel_rfl) ?_)
    | refine c_pick (d_indexAddrD rfl rfl rfl (by first | omega | (dsimp only; omega)) (by assumption)) ?_
    | refine c_pick (d_assignD rfl rfl) ?_
    | refine c_pick (d_moveD rfl rfl) ?_
    | refine c_pick (d_fieldAddrB rfl rfl rfl) ?_
    | refine c_pick (d_loadBD rfl rfl rfl (by first | rfl | (simp only [cellsD]; rfl))) ?_
    | refine c_pick (d_call rfl (by kernel_rfl) rfl (by first | exact hC | exact hS)) ?_
    | refine c_pick (d_loadD rfl rfl (by first | rfl | (simp only [cellsD]; rfl))) ?_
    | fail)
          all_goals exact PLe.refl _
      · have g3 : decide (cmpS u v ≠ 0) = true := decide_eq_true hs
        rw [cmpPm_ne1 hL hL' (fun i u v x y hi => hall i u v x y hi) hu hv hs]
        repeat' (first
    | refine run_seq ?_
    | (refine k_pick rfl ?_; first | refine k_assignD rfl rfl ?_ | refine k_moveD rfl rfl ?_ | refine k_fieldAddrB rfl rfl rfl ?_ | refine k_loadBD rfl rfl rfl (by first | rfl | (simp only [cellsD]; rfl)) ?_ | refine k_bin2B rfl rfl rfl rfl ?_ | refine k_pickT rfl rfl (by first | rfl | assumption) rfl ?_ | refine k_lenD rfl rfl ?_)
    | refine run_opsEnd ?_
    | refine run_region ?_
    | refine run_condT rfl (by first | rfl | assumption) ?_
    | (refine k_guardY rfl rfl (by first | rfl | assumption) ?_; first | refine k_moveD rfl rfl ?_ | refine k_fieldAddrB rfl rfl rfl ?_ | refine k_loadBD rfl rfl rfl (by first | rfl | (simp only [cellsD]; rfl)) ?_ | refine k_bin2B rfl rfl rfl rfl ?_ | refine k_lenD rfl rfl ?_)
    | refine run_block ?_
    | refine run_skip ?_
    | refine run_retOk (resOk_tmp rfl rfl ?_)
    | refine run_drawC (by kernel_rfl) ?_
    | refine c_nil (And.intro (by kernel_rfl) ?_)
    | refine c_pick (d_indexAddrD rfl rfl rfl (by first | omega | (dsimp only; omega)) (by assumption)) ?_
    | refine c_pick (d_assignD rfl rfl) ?_
    | refine c_pick (d_moveD rfl rfl) ?_
    | refine c_pick (d_fieldAddrB rfl rfl rfl) ?_
    | refine c_pick (d_loadBD rfl rfl rfl (by first | rfl | (simp only [cellsD]; rfl))) ?_
    | refine c_pick (d_call rfl (by kernel_rfl) rfl (by first | exact hC | exact hS)) ?_
    | refine c_pick (d_loadD rfl rfl (by first | rfl | (simp only [cellsD]; rfl))) ?_
    | fail)
        all_goals exact PLe.refl _
    · have g2 : decide ((j : Int) < (((pdS ks').length : Nat) : Int)) = false := decide_eq_false (by omega)
      rw [hend (.inr (by omega))]
      repeat' (first
    | refine run_seq ?_
    | (refine k_pick rfl ?_; first | refine k_assignD rfl rfl ?_ | refine k_moveD rfl rfl ?_ | refine k_fieldAddrB rfl rfl rfl ?_ | refine k_loadBD rfl rfl rfl (by first | rfl | (simp only [cellsD]; rfl)) ?_ | refine k_bin2B rfl rfl rfl rfl ?_ | refine k_pickT rfl rfl (by first | rfl | assumption) rfl ?_ | refine k_call rfl (by kernel_rfl) rfl (by first | exact cI) ?_ | refine k_lenD rfl rfl ?_)
    | refine run_opsEnd ?_
    | refine run_region ?_
    | refine run_condF rfl (by first | rfl | assumption) ?_
    | (refine k_guardY rfl rfl (by first | rfl | assumption) ?_; first | refine k_moveD rfl rfl ?_ | refine k_fieldAddrB rfl rfl rfl ?_ | refine k_loadBD rfl rfl rfl (by first | rfl | (simp only [cellsD]; rfl)) ?_ | refine k_bin2B rfl rfl rfl rfl ?_ | refine k_lenD rfl rfl ?_)
    | refine run_exit rfl ?_
    | refine run_retOk (resOk_tmp rfl rfl ?_)
    | fail)
      all_goals exact PLe.refl _
  · have g1 : decide ((j : Int) < (((pdS ks).length : Nat) : Int)) = false := decide_eq_false (by omega)
    rw [hend (.inl (by omega))]
    repeat' (first
    | refine run_seq ?_
    | (refine k_pick rfl ?_; first | refine k_assignD rfl rfl ?_ | refine k_moveD rfl rfl ?_ | refine k_fieldAddrB rfl rfl rfl ?_ | refine k_loadBD rfl rfl rfl (by first | rfl | (simp only [cellsD]; rfl)) ?_ | refine k_bin2B rfl rfl rfl rfl ?_ | refine k_pickF rfl rfl (by first | rfl | assumption) rfl ?_ | refine k_call rfl (by kernel_rfl) rfl (by first | exact cI) ?_ | refine k_lenD rfl rfl ?_)
    | refine run_opsEnd ?_
    | refine run_region ?_
    | refine run_condF rfl (by first | rfl | assumption) ?_
    | refine k_guardNT rfl rfl (by first | rfl | assumption) rfl ?_
    | refine run_exit rfl ?_
    | refine run_retOk (resOk_tmp rfl rfl ?_)
    | fail)
    all_goals exact PLe.refl _
theorem fits_fl {x : GV} (h : Fits (qV x)) : (Lit.float .f64 x.f).wf = true := by
  obtain ⟨w, F, v, hv⟩ := h.aggAt 2 (d := .val (.float .f64 x.f)) rfl
  unfold Rep at hv
  exact hv.2
theorem sAsFloat_p (x : GV) : PCall Try.prog 82 [qV x] (.val (.float .f64 (asF x))) := by
  refine pcall_fits fun hf => ?_
  have hx := fits_fl (hf _ (List.mem_singleton.2 rfl))
  have := pcall_V1s (P := Try.prog) (f := 82) (x := x) (u := .float .f64 (asF x)) (by
    show (Lit.float .f64 (asF x)).wf = true
    unfold asF
    split
    · exact floatOfInt_wf _ _
    · exact hx) (fun w v hv => asFloat_any x w v hv)
  rw [pdV_eq] at this
  exact this
theorem rank_cases (x : GV) : rankV x = 0 ∨ rankV x = 1 ∨ rankV x = 2 ∨ rankV x = 3 ∨ rankV x = 4 ∨ rankV x = 5 := by
  unfold rankV
  repeat' split
  all_goals simp
set_option maxHeartbeats 8000000 in
theorem sPlain_p1 (x y : GV) (hx : PlG x) (hy : PlG y) (ih : ∀ a ∈ x.l, ∀ b ∈ y.l, PCall Try.prog 66 [qV a, qV b] (.val (.int .i64 (cmpP a b)))) : PCall Try.prog 66 [qV x, qV y] (.val (.int .i64 (cmpP x y))) := by
  obtain ⟨k, n, f, s, ks, l⟩ := x
  obtain ⟨k', n', f', s', ks', l'⟩ := y
  simp only [PlG] at hx hy
  have c1 := sRank_p (.mk k n f s ks l)
  have c2 := sRank_p (.mk k' n' f' s' ks' l')
  have c3 := sInts_p (rankV (.mk k n f s ks l)) (rankV (.mk k' n' f' s' ks' l'))
  have c4 := sAsFloat_p (.mk k n f s ks l)
  have c5 := sAsFloat_p (.mk k' n' f' s' ks' l')
  have c6 := sFloats_p (asF (.mk k n f s ks l)) (asF (.mk k' n' f' s' ks' l'))
  have c7 := sStrs_p s s'
  have c8 := sInts_p n n'
  have c9 := sLists_p l l' ih
  have c10 := sMaps_p k n f s ks l k' n' f' s' ks' l' hx.1 hy.1 ih
  have hr := rank_cases (.mk k n f s ks l)
  rw [show cmpP (.mk k n f s ks l) (.mk k' n' f' s' ks' l') = if cmpI (rankV (.mk k n f s ks l)) (rankV (.mk k' n' f' s' ks' l')) ≠ 0 then cmpI (rankV (.mk k n f s ks l)) (rankV (.mk k' n' f' s' ks' l'))
    else if rankV (.mk k n f s ks l) = 0 then (if k = 2 ∧ k' = 2 then cmpI n n' else cmpFs (asF (.mk k n f s ks l)) (asF (.mk k' n' f' s' ks' l')))
    else if rankV (.mk k n f s ks l) = 1 then cmpS s s'
    else if rankV (.mk k n f s ks l) = 2 then cmpI n n'
    else if rankV (.mk k n f s ks l) = 3 then cmpPl l l'
    else if rankV (.mk k n f s ks l) = 4 then cmpPm ks l ks' l'
    else 0 by simp only [cmpP]]
  clear ih hx hy
  generalize rankV (.mk k n f s ks l) = r at *
  generalize rankV (.mk k' n' f' s' ks' l') = r' at *
  generalize asF (.mk k n f s ks l) = A at *
  generalize asF (.mk k' n' f' s' ks' l') = B at *
  generalize cmpI r r' = R at *
  generalize cmpI n n' = R2 at *
  refine pcall_of_run Try.func66 rfl Try.ntmps66 rfl (fun X => ?_)
  by_cases h0 : R = 0
  rotate_left
  · have g0 : decide (R ≠ 0) = true := decide_eq_true h0
    rw [if_pos h0]
    repeat' (first
    | refine run_seq ?_
    | (refine k_pick rfl ?_; first | refine k_assignD rfl rfl ?_ | refine k_moveD rfl rfl ?_ | refine k_bin2B rfl rfl rfl rfl ?_ | refine k_boxW rfl rfl rfl (by first | rfl | (simp only [cellsD]; rfl)) ?_)
    | refine run_opsEnd ?_
    | refine run_region ?_
    | refine run_condT rfl (by first | rfl | assumption) ?_
    | refine run_retOk (resOk_tmp rfl rfl ?_)
    | refine run_drawC (by kernel_rfl) ?_
    | refine c_nil (And.intro (by kernel_rfl) ?_)
    | refine c_pick (d_assignD rfl rfl) ?_
    | refine c_pick (d_loadW rfl rfl rfl (by first | rfl | (simp only [cellsD]; rfl))) ?_
    | refine c_pick (d_call rfl (by kernel_rfl) rfl (by first | exact c1 | exact c2 | exact c3)) ?_
    | fail)
    all_goals exact PLe.refl _
  have g0 : decide (R ≠ 0) = false := decide_eq_false (by simp [h0])
  rw [if_neg (by simp [h0])]
  rcases hr with hr | hr | hr | hr | hr | hr <;> subst hr
  · rw [if_pos rfl]
    by_cases e1 : k = 2
    · have q1 : decide (k = 2) = true := decide_eq_true e1
      by_cases e2 : k' = 2
      · have q2 : decide (k' = 2) = true := decide_eq_true e2
        rw [if_pos ⟨e1, e2⟩]
        repeat' (first
    | refine run_seq ?_
    | (refine k_pick rfl ?_; first | refine k_assignD rfl rfl ?_ | refine k_moveD rfl rfl ?_ | refine k_fieldAddrB rfl rfl rfl ?_ | refine k_loadW rfl rfl rfl (by first | rfl | (simp only [cellsD]; rfl)) ?_ | refine k_loadBD rfl rfl rfl (by first | rfl | (simp only [cellsD]; rfl)) ?_ | refine k_bin2B rfl rfl rfl rfl ?_ | refine k_pickT rfl rfl (by first | rfl | assumption) rfl ?_ | refine k_boxW rfl rfl rfl (by first | rfl | (simp only [cellsD]; rfl)) ?_ | refine k_call rfl (by kernel_rfl) rfl (by first | exact c1 | exact c2 | exact c3 | exact c8) ?_)
    | refine run_opsEnd ?_
    | refine run_region ?_
    | refine run_condT rfl (by first | rfl | assumption) ?_
    | refine run_condF rfl (by first | rfl | assumption) ?_
    | (refine k_guardY rfl rfl (by first | rfl | assumption) ?_; first | refine k_fieldAddrB rfl rfl rfl ?_ | refine k_loadBD rfl rfl rfl (by first | rfl | (simp only [cellsD]; rfl)) ?_ | refine k_bin2B rfl rfl rfl rfl ?_)
    | refine run_block ?_
    | refine run_skip ?_
    | refine run_retOk (resOk_tmp rfl rfl ?_)
    | refine run_drawC (by kernel_rfl) ?_
    | refine c_nil (And.intro (by kernel_rfl) ?_)
    | refine c_pick (d_assignD rfl rfl) ?_
    | refine c_pick (d_loadW rfl rfl rfl (by first | rfl | (simp only [cellsD]; rfl))) ?_
    | refine c_pick (d_call rfl (by kernel_rfl) rfl (by first | exact c1 | exact c2 | exact c3 | exact c8)) ?_
    | fail)
        all_goals exact PLe.refl _
      · have q2 : decide (k' = 2) = false := decide_eq_false e2
        rw [if_neg (fun h => e2 h.2)]
        repeat' (first
    | refine run_seq ?_
    | (refine k_pick rfl ?_; first | refine k_assignD rfl rfl ?_ | refine k_moveD rfl rfl ?_ | refine k_fieldAddrB rfl rfl rfl ?_ | refine k_loadW rfl rfl rfl (by first | rfl | (simp only [cellsD]; rfl)) ?_ | refine k_loadBD rfl rfl rfl (by first | rfl | (simp only [cellsD]; rfl)) ?_ | refine k_bin2B rfl rfl rfl rfl ?_ | refine k_pickT rfl rfl (by first | rfl | assumption) rfl ?_ | refine k_boxW rfl rfl rfl (by first | rfl | (simp only [cellsD]; rfl)) ?_ | refine k_call rfl (by kernel_rfl) rfl (by first | exact c1 | exact c2 | exact c3 | exact c4 | exact c5 | exact c6) ?_)
    | refine run_opsEnd ?_
    | refine run_region ?_
    | refine run_condT rfl (by first | rfl | assumption) ?_
    | refine run_condF rfl (by first | rfl | assumption) ?_
    | (refine k_guardY rfl rfl (by first | rfl | assumption) ?_; first | refine k_fieldAddrB rfl rfl rfl ?_ | refine k_loadBD rfl rfl rfl (by first | rfl | (simp only [cellsD]; rfl)) ?_ | refine k_bin2B rfl rfl rfl rfl ?_)
    | refine run_block ?_
    | refine run_skip ?_
    | refine run_retOk (resOk_tmp rfl rfl ?_)
    | refine run_drawC (by kernel_rfl) ?_
    | refine c_nil (And.intro (by kernel_rfl) ?_)
    | refine c_pick (d_assignD rfl rfl) ?_
    | refine c_pick (d_loadW rfl rfl rfl (by first | rfl | (simp only [cellsD]; rfl))) ?_
    | refine c_pick (d_call rfl (by kernel_rfl) rfl (by first | exact c1 | exact c2 | exact c3 | exact c4 | exact c5 | exact c6)) ?_
    | fail)
        all_goals exact PLe.refl _
    · have q1 : decide (k = 2) = false := decide_eq_false e1
      rw [if_neg (fun h => e1 h.1)]
      repeat' (first
    | refine run_seq ?_
    | (refine k_pick rfl ?_; first | refine k_assignD rfl rfl ?_ | refine k_moveD rfl rfl ?_ | refine k_fieldAddrB rfl rfl rfl ?_ | refine k_loadW rfl rfl rfl (by first | rfl | (simp only [cellsD]; rfl)) ?_ | refine k_loadBD rfl rfl rfl (by first | rfl | (simp only [cellsD]; rfl)) ?_ | refine k_bin2B rfl rfl rfl rfl ?_ | refine k_pickF rfl rfl (by first | rfl | assumption) rfl ?_ | refine k_boxW rfl rfl rfl (by first | rfl | (simp only [cellsD]; rfl)) ?_ | refine k_call rfl (by kernel_rfl) rfl (by first | exact c1 | exact c2 | exact c3 | exact c4 | exact c5 | exact c6) ?_)
    | refine run_opsEnd ?_
    | refine run_region ?_
    | refine run_condT rfl (by first | rfl | assumption) ?_
    | refine run_condF rfl (by first | rfl | assumption) ?_
    | refine k_guardNT rfl rfl (by first | rfl | assumption) rfl ?_
    | refine run_block ?_
    | refine run_skip ?_
    | refine run_retOk (resOk_tmp rfl rfl ?_)
    | refine run_drawC (by kernel_rfl) ?_
    | refine c_nil (And.intro (by kernel_rfl) ?_)
    | refine c_pick (d_assignD rfl rfl) ?_
    | refine c_pick (d_loadW rfl rfl rfl (by first | rfl | (simp only [cellsD]; rfl))) ?_
    | refine c_pick (d_call rfl (by kernel_rfl) rfl (by first | exact c1 | exact c2 | exact c3 | exact c4 | exact c5 | exact c6)) ?_
    | fail)
      all_goals exact PLe.refl _
  · rw [if_neg (by decide), if_pos rfl]
    repeat' (first
    | refine run_seq ?_
    | (refine k_pick rfl ?_; first | refine k_assignD rfl rfl ?_ | refine k_moveD rfl rfl ?_ | refine k_fieldAddrB rfl rfl rfl ?_ | refine k_loadW rfl rfl rfl (by first | rfl | (simp only [cellsD]; rfl)) ?_ | refine k_loadBD rfl rfl rfl (by first | rfl | (simp only [cellsD]; rfl)) ?_ | refine k_bin2B rfl rfl rfl rfl ?_ | refine k_boxW rfl rfl rfl (by first | rfl | (simp only [cellsD]; rfl)) ?_ | refine k_call rfl (by kernel_rfl) rfl (by first | exact c1 | exact c2 | exact c3 | exact c7) ?_)
    | refine run_opsEnd ?_
    | refine run_region ?_
    | refine run_condT rfl (by first | rfl | assumption) ?_
    | refine run_condF rfl (by first | rfl | assumption) ?_
    | refine run_block ?_
    | refine run_skip ?_
    | refine run_retOk (resOk_tmp rfl rfl ?_)
    | refine run_drawC (by kernel_rfl) ?_
    | refine c_nil (And.intro (by kernel_rfl) ?_)
    | refine c_pick (d_assignD rfl rfl) ?_
    | refine c_pick (d_loadW rfl rfl rfl (by first | rfl | (simp only [cellsD]; rfl))) ?_
    | refine c_pick (d_call rfl (by kernel_rfl) rfl (by first | exact c1 | exact c2 | exact c3 | exact c7)) ?_
    | fail)
    all_goals exact PLe.refl _
  · rw [if_neg (by decide), if_neg (by decide), if_pos rfl]
    repeat' (first
    | refine run_seq ?_
    | (refine k_pick rfl ?_; first | refine k_assignD rfl rfl ?_ | refine k_moveD rfl rfl ?_ | refine k_fieldAddrB rfl rfl rfl ?_ | refine k_loadW rfl rfl rfl (by first | rfl | (simp only [cellsD]; rfl)) ?_ | refine k_loadBD rfl rfl rfl (by first | rfl | (simp only [cellsD]; rfl)) ?_ | refine k_bin2B rfl rfl rfl rfl ?_ | refine k_boxW rfl rfl rfl (by first | rfl | (simp only [cellsD]; rfl)) ?_ | refine k_call rfl (by kernel_rfl) rfl (by first | exact c1 | exact c2 | exact c3 | exact c8) ?_)
    | refine run_opsEnd ?_
    | refine run_region ?_
    | refine run_condT rfl (by first | rfl | assumption) ?_
    | refine run_condF rfl (by first | rfl | assumption) ?_
    | refine run_block ?_
    | refine run_skip ?_
    | refine run_retOk (resOk_tmp rfl rfl ?_)
    | refine run_drawC (by kernel_rfl) ?_
    | refine c_nil (And.intro (by kernel_rfl) ?_)
    | refine c_pick (d_assignD rfl rfl) ?_
    | refine c_pick (d_loadW rfl rfl rfl (by first | rfl | (simp only [cellsD]; rfl))) ?_
    | refine c_pick (d_call rfl (by kernel_rfl) rfl (by first | exact c1 | exact c2 | exact c3 | exact c8)) ?_
    | fail)
    all_goals exact PLe.refl _
  · rw [if_neg (by decide), if_neg (by decide), if_neg (by decide), if_pos rfl]
    repeat' (first
    | refine run_seq ?_
    | (refine k_pick rfl ?_; first | refine k_assignD rfl rfl ?_ | refine k_moveD rfl rfl ?_ | refine k_fieldAddrB rfl rfl rfl ?_ | refine k_loadW rfl rfl rfl (by first | rfl | (simp only [cellsD]; rfl)) ?_ | refine k_loadBD rfl rfl rfl (by first | rfl | (simp only [cellsD]; rfl)) ?_ | refine k_bin2B rfl rfl rfl rfl ?_ | refine k_boxW rfl rfl rfl (by first | rfl | (simp only [cellsD]; rfl)) ?_ | refine k_call rfl (by kernel_rfl) rfl (by first | exact c1 | exact c2 | exact c3 | exact c9) ?_)
    | refine run_opsEnd ?_
    | refine run_region ?_
    | refine run_condT rfl (by first | rfl | assumption) ?_
    | refine run_condF rfl (by first | rfl | assumption) ?_
    | refine run_block ?_
    | refine run_skip ?_
    | refine run_retOk (resOk_tmp rfl rfl ?_)
    | refine run_drawC (by kernel_rfl) ?_
    | refine c_nil (And.intro (by kernel_rfl) ?_)
    | refine c_pick (d_assignD rfl rfl) ?_
    | refine c_pick (d_loadW rfl rfl rfl (by first | rfl | (simp only [cellsD]; rfl))) ?_
    | refine c_pick (d_call rfl (by kernel_rfl) rfl (by first | exact c1 | exact c2 | exact c3 | exact c9)) ?_
    | fail)
    all_goals exact PLe.refl _
  · rw [if_neg (by decide), if_neg (by decide), if_neg (by decide), if_neg (by decide), if_pos rfl]
    repeat' (first
    | refine run_seq ?_
    | (refine k_pick rfl ?_; first | refine k_assignD rfl rfl ?_ | refine k_moveD rfl rfl ?_ | refine k_loadW rfl rfl rfl (by first | rfl | (simp only [cellsD]; rfl)) ?_ | refine k_bin2B rfl rfl rfl rfl ?_ | refine k_boxW rfl rfl rfl (by first | rfl | (simp only [cellsD]; rfl)) ?_ | refine k_call rfl (by kernel_rfl) rfl (by first | exact c1 | exact c2 | exact c3 | exact c10) ?_)
    | refine run_opsEnd ?_
    | refine run_region ?_
    | refine run_condT rfl (by first | rfl | assumption) ?_
    | refine run_condF rfl (by first | rfl | assumption) ?_
    | refine run_block ?_
    | refine run_skip ?_
    | refine run_retOk (resOk_tmp rfl rfl ?_)
    | refine run_drawC (by kernel_rfl) ?_
    | refine c_nil (And.intro (by kernel_rfl) ?_)
    | refine c_pick (d_assignD rfl rfl) ?_
    | refine c_pick (d_loadW rfl rfl rfl (by first | rfl | (simp only [cellsD]; rfl))) ?_
    | refine c_pick (d_call rfl (by kernel_rfl) rfl (by first | exact c1 | exact c2 | exact c3 | exact c10)) ?_
    | fail)
    all_goals exact PLe.refl _
  · rw [if_neg (by decide), if_neg (by decide), if_neg (by decide), if_neg (by decide), if_neg (by decide)]
    repeat' (first
    | refine run_seq ?_
    | (refine k_pick rfl ?_; first | refine k_assignD rfl rfl ?_ | refine k_moveD rfl rfl ?_ | refine k_loadW rfl rfl rfl (by first | rfl | (simp only [cellsD]; rfl)) ?_ | refine k_bin2B rfl rfl rfl rfl ?_ | refine k_boxW rfl rfl rfl (by first | rfl | (simp only [cellsD]; rfl)) ?_ | refine k_call rfl (by kernel_rfl) rfl (by first | exact c1 | exact c2 | exact c3) ?_)
    | refine run_opsEnd ?_
    | refine run_region ?_
    | refine run_condF rfl (by first | rfl | assumption) ?_
    | refine run_block ?_
    | refine run_blkEnd ?_
    | refine run_skip ?_
    | refine run_retOk (resOk_tmp rfl rfl ?_)
    | refine run_drawC (by kernel_rfl) ?_
    | refine c_nil (And.intro (by kernel_rfl) ?_)
    | refine c_pick (d_assignD rfl rfl) ?_
    | refine c_pick (d_loadW rfl rfl rfl (by first | rfl | (simp only [cellsD]; rfl))) ?_
    | refine c_pick (d_call rfl (by kernel_rfl) rfl (by first | exact c1 | exact c2 | exact c3)) ?_
    | fail)
    all_goals exact PLe.refl _
theorem sPlain_p : ∀ (x y : GV), PlG x → PlG y → PCall Try.prog 66 [qV x, qV y] (.val (.int .i64 (cmpP x y)))
  | .mk k n f s ks l, .mk k' n' f' s' ks' l', hx, hy => sPlain_p1 _ _ hx hy (fun a ha b hb => sPlain_p a b (PlGs_mem (by simp only [PlG] at hx; exact hx.2) a ha) (PlGs_mem (by simp only [PlG] at hy; exact hy.2) b hb))
termination_by x => SizeOf.sizeOf x
decreasing_by
  simp_wf
  have ha : a ∈ l := ha
  have := List.sizeOf_lt_of_mem ha
  omega
end Go.Proofs.Ytbbacpdbbmjblaa
end
section
set_option linter.unusedVariables false
namespace Go.Proofs.Ytbbacpdbbmjblaa
set_option linter.unusedSimpArgs false
theorem cmpFs_eq (a b : Nat) : cmpFs a b = cmpF a b := by
  unfold cmpFs cmpF
  cases FloatKind.f64.format.order a b with
  | none => rfl
  | some o => cases o <;> rfl
theorem cmpS_lt {a b : ByteArray} (h : blt a b = true) : cmpS a b = -1 := by unfold cmpS; rw [if_pos h]
theorem cmpS_gt {a b : ByteArray} (h : blt b a = true) : cmpS a b = 1 := by unfold cmpS; rw [if_neg (by rw [blt_asymm h]; simp), if_pos h]
theorem cmpS_self (a : ByteArray) : cmpS a a = 0 := by unfold cmpS; rw [if_neg (by rw [blt_irrefl]; simp), if_neg (by rw [blt_irrefl]; simp)]
theorem incr_head {u : ByteArray} {U : List ByteArray} (h : Incr (u :: U)) : (∀ b ∈ U, blt u b = true) ∧ Incr U := List.pairwise_cons.1 h
theorem cmp_map : ∀ (ks : List ByteArray) (l : List GV) (ks' : List ByteArray) (l' : List GV) (U : List ByteArray) (i : Nat) (m q : List (ByteArray × JV)), Incr ks → Incr ks' → Incr U → (∀ k, k ∈ U ↔ k ∈ ks ∨ k ∈ ks') → ks.length = l.length → ks'.length = l'.length → i + ks.length = m.length → i + ks'.length = q.length →
    (∀ k ∈ U, ∀ z, getA (ks.zip l) k = some z ↔ ∃ x, lkJ m k = some x ∧ unJ x = z) → (∀ k ∈ U, ∀ z, getA (ks'.zip l') k = some z ↔ ∃ x, lkJ q k = some x ∧ unJ x = z) →
    (∀ k x y, lkJ m k = some x → lkJ q k = some y → cmpP (unJ x) (unJ y) = cmpJ x y) → cmpPm ks l ks' l' = cmpKs cmpJ m q i U
  | [], l, [], l', U, i, m, q, _, _, _, hU, _, _, _, _, _, _, _ => by
    have : U = [] := List.eq_nil_iff_forall_not_mem.2 fun k hk => by simpa using (hU k).1 hk
    subst this
    simp only [cmpPm, cmpKs]; rfl
  | [], l, b :: r', l', U, i, m, q, _, _, _, hU, _, _, hm, hq, _, _, _ => by
    cases U with
    | nil => have := (hU b).2 (by simp); simp at this
    | cons u U =>
      simp only [cmpPm, cmpKs]
      have e : stepC cmpJ m q i u = -1 := by unfold stepC; rw [if_pos (by simpa using hm)]
      rw [e, if_neg (by decide)]
      unfold cmpI
      first | (simp; done) | (simp; omega)
  | a :: r, l, [], l', U, i, m, q, _, _, _, hU, hl, _, hm, hq, _, _, _ => by
    cases U with
    | nil => have := (hU a).2 (by simp); simp at this
    | cons u U =>
      have e : stepC cmpJ m q i u = 1 := by
        unfold stepC
        simp at hm hq
        rw [if_neg (by omega), if_pos (by omega)]
      cases l <;> simp only [cmpPm, cmpKs] <;> rw [e, if_neg (by decide)] <;> unfold cmpI <;> first | (simp; done) | (simp; omega)
  | a :: r, [], b :: r', l', U, i, m, q, _, _, _, _, hl, _, _, _, _, _, _ => by simp at hl
  | a :: r, _ :: _, b :: r', [], U, i, m, q, _, _, _, _, _, hl', _, _, _, _, _ => by simp at hl'
  | a :: r, z :: l, b :: r', z' :: l', U, i, m, q, h1, h2, h3, hU, hl, hl', hm, hq, hv, hv', ih => by
    obtain ⟨h1a, h1b⟩ := incr_head h1
    obtain ⟨h2a, h2b⟩ := incr_head h2
    cases U with
    | nil => have := (hU a).2 (by simp); simp at this
    | cons u U =>
      obtain ⟨h3a, h3b⟩ := incr_head h3
      have him : i ≠ m.length := by simp at hm; omega
      have hiq : i ≠ q.length := by simp at hq; omega
      have hua : u = a ∨ blt u a = true := by
        rcases List.mem_cons.1 ((hU a).2 (by simp)) with h | h
        · exact .inl h.symm
        · exact .inr (h3a a h)
      have hub : u = b ∨ blt u b = true := by
        rcases List.mem_cons.1 ((hU b).2 (by simp)) with h | h
        · exact .inl h.symm
        · exact .inr (h3a b h)
      have hu := (hU u).1 (by simp)
      have none_m : ∀ k, k ∉ a :: r → k ∈ u :: U → lkJ m k = none := by
        intro k hk hkU
        cases h : lkJ m k with
        | none => rfl
        | some x =>
          have := (hv k hkU (unJ x)).2 ⟨x, h, rfl⟩
          exact absurd (List.of_mem_zip (a := k) (b := unJ x) (getA_mem this)).1 hk
      have none_q : ∀ k, k ∉ b :: r' → k ∈ u :: U → lkJ q k = none := by
        intro k hk hkU
        cases h : lkJ q k with
        | none => rfl
        | some x =>
          have := (hv' k hkU (unJ x)).2 ⟨x, h, rfl⟩
          exact absurd (List.of_mem_zip (a := k) (b := unJ x) (getA_mem this)).1 hk
      have hcmp : cmpPm (a :: r) (z :: l) (b :: r') (z' :: l') = if cmpS a b ≠ 0 then cmpS a b else if cmpP z z' ≠ 0 then cmpP z z' else cmpPm r l r' l' := by simp only [cmpPm]
      rw [hcmp]
      simp only [cmpKs]
      cases hab : blt a b with
      | true =>
        have e : u = a := by
          rcases hu with h | h
          · rcases List.mem_cons.1 h with h | h
            · exact h
            · rcases hua with e | e
              · exact e
              · have := h1a u h; rw [blt_asymm this] at e; cases e
          · exfalso
            have hbu : blt a u = true := by
              rcases List.mem_cons.1 h with h | h
              · rw [h]; exact hab
              · exact blt_trans hab (h2a u h)
            rcases hua with e | e
            · rw [e, blt_irrefl] at hbu; cases hbu
            · rw [blt_asymm hbu] at e; cases e
        subst e
        obtain ⟨x, hx, _⟩ := (hv u (by simp) z).1 (by simp [getA])
        have hn := none_q u (fun h => by
          rcases List.mem_cons.1 h with h | h
          · rw [h, blt_irrefl] at hab; cases hab
          · have := blt_trans hab (h2a u h); rw [blt_irrefl] at this; cases this) (by simp)
        have e : stepC cmpJ m q i u = -1 := by unfold stepC; rw [if_neg him, if_neg hiq, hx, hn]
        rw [cmpS_lt hab, if_pos (by decide), e, if_neg (by decide)]
      | false =>
        cases hba : blt b a with
        | true =>
          have e : u = b := by
            rcases hu with h | h
            · exfalso
              have hbu : blt b u = true := by
                rcases List.mem_cons.1 h with h | h
                · rw [h]; exact hba
                · exact blt_trans hba (h1a u h)
              rcases hub with e | e
              · rw [e, blt_irrefl] at hbu; cases hbu
              · rw [blt_asymm hbu] at e; cases e
            · rcases List.mem_cons.1 h with h | h
              · exact h
              · rcases hub with e | e
                · exact e
                · have := h2a u h; rw [blt_asymm this] at e; cases e
          subst e
          have hn := none_m u (fun h => by
            rcases List.mem_cons.1 h with h | h
            · rw [h, blt_irrefl] at hba; cases hba
            · have := blt_trans hba (h1a u h); rw [blt_irrefl] at this; cases this) (by simp)
          have e : stepC cmpJ m q i u = 1 := by unfold stepC; rw [if_neg him, if_neg hiq, hn]
          rw [cmpS_gt hba, if_pos (by decide), e, if_neg (by decide)]
        | false =>
          have e0 : a = b := blt_total hab hba
          subst e0
          have e : u = a := by
            rcases hua with e | e
            · exact e
            · exfalso
              rcases hu with h | h
              · rcases List.mem_cons.1 h with h | h
                · rw [h, blt_irrefl] at e; cases e
                · have := h1a u h; rw [blt_asymm this] at e; cases e
              · rcases List.mem_cons.1 h with h | h
                · rw [h, blt_irrefl] at e; cases e
                · have := h2a u h; rw [blt_asymm this] at e; cases e
          subst e
          obtain ⟨x, hx, ex⟩ := (hv u (by simp) z).1 (by simp [getA])
          obtain ⟨y, hy, ey⟩ := (hv' u (by simp) z').1 (by simp [getA])
          have e : stepC cmpJ m q i u = cmpJ x y := by unfold stepC; rw [if_neg him, if_neg hiq, hx, hy]
          have e2 : cmpP z z' = cmpJ x y := by rw [← ex, ← ey]; exact ih u x y hx hy
          rw [cmpS_self, if_neg (by simp), e, e2]
          by_cases hc : cmpJ x y = 0
          · rw [if_neg (by simp [hc]), if_pos hc]
            have hne : ∀ k ∈ U, u ≠ k := fun k hk e => by have := h3a k hk; rw [← e, blt_irrefl] at this; cases this
            refine cmp_map r l r' l' U (i + 1) m q h1b h2b h3b (fun k => ⟨fun hk => ?_, fun hk => ?_⟩) (by simpa using hl) (by simpa using hl') (by simp at hm; omega) (by simp at hq; omega) (fun k hk w => ?_) (fun k hk w => ?_) ih
            · rcases (hU k).1 (by simp [hk]) with h | h
              · rcases List.mem_cons.1 h with h | h
                · exact absurd h.symm (hne k hk)
                · exact .inl h
              · rcases List.mem_cons.1 h with h | h
                · exact absurd h.symm (hne k hk)
                · exact .inr h
            · have hmem : k ∈ u :: U := (hU k).2 (hk.imp (by simp_all) (by simp_all))
              rcases List.mem_cons.1 hmem with h | h
              · exfalso
                subst h
                rcases hk with hk | hk
                · have := h1a k hk; rw [blt_irrefl] at this; cases this
                · have := h2a k hk; rw [blt_irrefl] at this; cases this
              · exact h
            · have := hv k (by simp [hk]) w
              simp only [List.zip_cons_cons, getA, if_neg (hne k hk)] at this
              exact this
            · have := hv' k (by simp [hk]) w
              simp only [List.zip_cons_cons, getA, if_neg (hne k hk)] at this
              exact this
          · rw [if_pos hc, if_neg hc]
theorem cmp_list : ∀ (b a : List JV), (∀ y ∈ b, ∀ x, JOk x → JOk y → cmpP (unJ x) (unJ y) = cmpJ x y) → JOks a → JOks b → cmpPl (unJs a) (unJs b) = cmpLs cmpJ a b
  | [], [], _, _, _ => by simp only [unJs, cmpPl, cmpLs]; rfl
  | [], x :: a, _, _, _ => by
    simp only [unJs, cmpPl, cmpLs]
    unfold cmpI
    first | (simp; done) | (simp; omega)
  | y :: b, [], _, _, _ => by
    simp only [unJs, cmpPl, cmpLs]
    unfold cmpI
    first | (simp; done) | (simp; omega)
  | y :: b, x :: a, ih, ha, hb => by
    simp only [JOks] at ha hb
    simp only [unJs, cmpPl, cmpLs]
    rw [ih y (by simp) x ha.1 hb.1, cmp_list b a (fun z hz => ih z (by simp [hz])) ha.2 hb.2]
    by_cases h : cmpJ x y = 0
    · rw [if_neg (by simp [h]), if_pos h]
    · rw [if_pos h, if_neg h]
theorem rank_un (j : JV) : rankV (unJ j) = (rankJ j : Int) := by
  cases j
  case map m =>
    obtain ⟨ks, l, e, _⟩ := unM_plain m gMap gMap_plain
    rw [show unJ (.map m) = unM m gMap by unfold unJ; rfl, e]; rfl
  all_goals (unfold unJ; rfl)
theorem cmpP_diff {x y : GV} (h : cmpI (rankV x) (rankV y) ≠ 0) : cmpP x y = cmpI (rankV x) (rankV y) := by
  cases x; cases y
  simp only [cmpP]
  rw [if_pos h]
theorem cmpJ_diff {j k : JV} (h : rankJ j ≠ rankJ k) : cmpJ j k = if rankJ j < rankJ k then -1 else 1 := by
  cases j <;> cases k <;> first | exact absurd rfl h | (unfold cmpJ; rfl) | (simp only [cmpJ])
theorem cmpP_0 {k n : Int} {f : Nat} {s : ByteArray} {ks : List ByteArray} {l : List GV} {k' n' : Int} {f' : Nat} {s' : ByteArray} {ks' : List ByteArray} {l' : List GV} (r : Int) (h : rankV (.mk k n f s ks l) = r) (h' : rankV (.mk k' n' f' s' ks' l') = r) :
    cmpP (.mk k n f s ks l) (.mk k' n' f' s' ks' l') = if r = 0 then (if k = 2 ∧ k' = 2 then cmpI n n' else cmpFs (asF (.mk k n f s ks l)) (asF (.mk k' n' f' s' ks' l'))) else if r = 1 then cmpS s s' else if r = 2 then cmpI n n' else if r = 3 then cmpPl l l' else if r = 4 then cmpPm ks l ks' l' else 0 := by
  simp only [cmpP]
  rw [h, h', if_neg (by unfold cmpI; simp)]
theorem cmp_law : ∀ (k j : JV), JOk j → JOk k → cmpP (unJ j) (unJ k) = cmpJ j k := by
  intro k
  induction hk : SizeOf.sizeOf k using Nat.strongRecOn generalizing k with
  | _ n IH =>
  subst hk
  intro j hj hok
  by_cases hr : rankJ j = rankJ k
  rotate_left
  · have h1 := rank_un j
    have h2 := rank_un k
    have h3 : cmpI (rankV (unJ j)) (rankV (unJ k)) = if rankJ j < rankJ k then -1 else 1 := by
      rw [h1, h2]
      unfold cmpI
      by_cases h : rankJ j < rankJ k
      · rw [if_pos (by omega), if_pos h]
      · rw [if_neg (by omega), if_pos (by omega), if_neg h]
    rw [cmpJ_diff hr, ← h3]
    exact cmpP_diff (by rw [h3]; split <;> decide)
  cases j <;> cases k <;> first | (exfalso; simp [rankJ] at hr; done) | skip
  case null.null => rw [show unJ .null = .mk 0 0 0 ByteArray.empty [] [] by unfold unJ; rfl, cmpP_0 5 rfl rfl]; unfold cmpJ; rfl
  case bool.bool a b => rw [show unJ (.bool a) = .mk 1 (if a then 1 else 0) 0 ByteArray.empty [] [] by unfold unJ; rfl, show unJ (.bool b) = .mk 1 (if b then 1 else 0) 0 ByteArray.empty [] [] by unfold unJ; rfl, cmpP_0 2 rfl rfl]; unfold cmpJ; cases a <;> cases b <;> rfl
  case int.int a b => rw [show unJ (.int a) = .mk 2 a 0 ByteArray.empty [] [] by unfold unJ; rfl, show unJ (.int b) = .mk 2 b 0 ByteArray.empty [] [] by unfold unJ; rfl, cmpP_0 0 rfl rfl, if_pos rfl, if_pos ⟨rfl, rfl⟩]; unfold cmpJ; rfl
  case int.flt a b => rw [show unJ (.int a) = .mk 2 a 0 ByteArray.empty [] [] by unfold unJ; rfl, show unJ (.flt b) = .mk 3 0 b ByteArray.empty [] [] by unfold unJ; rfl, cmpP_0 0 rfl rfl, if_pos rfl, if_neg (by decide), cmpFs_eq]; unfold cmpJ; rfl
  case flt.int a b => rw [show unJ (.int b) = .mk 2 b 0 ByteArray.empty [] [] by unfold unJ; rfl, show unJ (.flt a) = .mk 3 0 a ByteArray.empty [] [] by unfold unJ; rfl, cmpP_0 0 rfl rfl, if_pos rfl, if_neg (by decide), cmpFs_eq]; unfold cmpJ; rfl
  case flt.flt a b => rw [show unJ (.flt a) = .mk 3 0 a ByteArray.empty [] [] by unfold unJ; rfl, show unJ (.flt b) = .mk 3 0 b ByteArray.empty [] [] by unfold unJ; rfl, cmpP_0 0 rfl rfl, if_pos rfl, if_neg (by decide), cmpFs_eq]; unfold cmpJ; rfl
  case str.str a b => rw [show unJ (.str a) = .mk 4 0 0 a [] [] by unfold unJ; rfl, show unJ (.str b) = .mk 4 0 0 b [] [] by unfold unJ; rfl, cmpP_0 1 rfl rfl]; unfold cmpJ; rfl
  case list.list a b =>
    unfold JOk at hj hok
    rw [show unJ (.list a) = .mk 5 0 0 ByteArray.empty [] (unJs a) by unfold unJ; rfl, show unJ (.list b) = .mk 5 0 0 ByteArray.empty [] (unJs b) by unfold unJ; rfl, cmpP_0 3 rfl rfl, cmpJ_list]
    show cmpPl (unJs a) (unJs b) = _
    exact cmp_list b a (fun y hy x hx hy' => IH (SizeOf.sizeOf y) (by have := List.sizeOf_lt_of_mem hy; simp; omega) y rfl x hx hy') hj.2 hok.2
  case map.map m q =>
    unfold JOk at hj hok
    obtain ⟨ks, l, e1, hi, hl, hk, hg⟩ := unM_form hj.1
    obtain ⟨ks', l', e2, hi', hl', hk', hg'⟩ := unM_form hok.1
    rw [show unJ (.map m) = unM m gMap by unfold unJ; rfl, show unJ (.map q) = unM q gMap by unfold unJ; rfl, e1, e2, cmpP_0 4 rfl rfl, cmpJ_map]
    show cmpPm ks l ks' l' = _
    have len : ∀ {m : List (ByteArray × JV)} {ks : List ByteArray}, (m.map (·.1)).Nodup → Incr ks → (∀ k, k ∈ ks ↔ k ∈ m.map (·.1)) → ks.length = m.length := by
      intro m ks hm hi hk
      have h1 := nodup_len (incr_nd hi) (fun x hx => (hk x).1 hx)
      have h2 := nodup_len hm (fun x hx => (hk x).2 hx)
      simp only [List.length_map] at h1 h2
      omega
    have n1 := len hj.1 hi hk
    have n2 := len hok.1 hi' hk'
    have hz : ∀ {m : List (ByteArray × JV)} {ks : List ByteArray} {l : List GV}, ks.length = l.length → Incr ks → (∀ k x, (∃ i : Nat, ks[i]? = some k ∧ l[i]? = some x) ↔ ∃ j, getA m k = some j ∧ unJ j = x) → ∀ k z, getA (ks.zip l) k = some z ↔ ∃ x, lkJ m k = some x ∧ unJ x = z := fun hl hi hg k z => by
      rw [zip_idx hl hi, hg, lkJ_getA]
    have main := cmp_map ks l ks' l' (unionK m q) 0 m q hi hi' (unionK_incr m q) (fun k => by rw [unionK_mem, hk, hk']) hl hl' (by omega) (by omega) (fun k _ z => hz hl hi hg k z) (fun k _ z => hz hl' hi' hg' k z) (fun k x y hx hy => by
      rw [lkJ_getA] at hx hy
      have hy' := getA_mem hy
      refine IH (SizeOf.sizeOf y) ?_ y rfl x (JOkm_mem hj.2.2 _ (getA_mem hx)) (JOkm_mem hok.2.2 _ hy')
      have := List.sizeOf_lt_of_mem hy'
      simp at this ⊢
      omega)
    unfold cmpMs
    by_cases h0 : m.length = 0 ∧ q.length = 0
    · rw [if_pos h0]
      have e3 : ks = [] := List.eq_nil_of_length_eq_zero (by omega)
      have e4 : ks' = [] := List.eq_nil_of_length_eq_zero (by omega)
      subst e3 e4
      simp only [cmpPm]; rfl
    · rw [if_neg h0]; exact main
end Go.Proofs.Ytbbacpdbbmjblaa
end
section
set_option linter.unusedVariables false
namespace Go.Proofs.Ytbbacpdbbmjblaa
open Go.RowKit
set_option linter.unusedSimpArgs false
theorem PlG_un : ∀ j : JV, JOk j → PlG (unJ j) := by
  intro j
  induction hk : SizeOf.sizeOf j using Nat.strongRecOn generalizing j with
  | _ n IH =>
  subst hk
  intro hj
  cases j with
  | list l =>
    unfold JOk at hj
    rw [show unJ (.list l) = .mk 5 0 0 ByteArray.empty [] (unJs l) by unfold unJ; rfl]
    unfold PlG
    refine ⟨by simp, ?_⟩
    have : ∀ (r : List JV), (∀ y ∈ r, y ∈ l) → JOks r → PlGs (unJs r) := by
      intro r
      induction r with
      | nil => intro _ _; simp only [unJs, PlGs]
      | cons x r ih =>
        intro h hr
        simp only [JOks] at hr
        simp only [unJs, PlGs]
        exact ⟨IH (SizeOf.sizeOf x) (by have := List.sizeOf_lt_of_mem (h x (by simp)); simp; omega) x rfl hr.1, ih (fun y hy => h y (by simp [hy])) hr.2⟩
    exact this l (fun _ h => h) hj.2
  | map m =>
    unfold JOk at hj
    obtain ⟨ks, l, e, hi, hl, hk, hg⟩ := unM_form hj.1
    rw [show unJ (.map m) = unM m gMap by unfold unJ; rfl, e]
    unfold PlG
    refine ⟨by omega, ?_⟩
    have key : ∀ x ∈ l, PlG x := by
      intro x hx
      obtain ⟨i, hi⟩ := List.getElem?_of_mem hx
      have hil := (List.getElem?_eq_some_iff.1 hi).1
      obtain ⟨k, hkk⟩ : ∃ k, ks[i]? = some k := ⟨_, List.getElem?_eq_getElem (by omega)⟩
      obtain ⟨j, hj1, hj2⟩ := (hg k x).1 ⟨i, hkk, hi⟩
      rw [← hj2]
      have hm := getA_mem hj1
      refine IH (SizeOf.sizeOf j) ?_ j rfl (JOkm_mem hj.2.2 _ hm)
      have := List.sizeOf_lt_of_mem hm
      simp at this ⊢
      omega
    clear hg hl e
    induction l with
    | nil => simp only [PlGs]
    | cons x r ih => simp only [PlGs]; exact ⟨key x (by simp), ih (fun y hy => key y (by simp [hy]))⟩
  | null => rw [show unJ .null = .mk 0 0 0 ByteArray.empty [] [] by unfold unJ; rfl]; unfold PlG; exact ⟨by simp, by simp only [PlGs]⟩
  | bool b => rw [show unJ (.bool b) = .mk 1 (if b then 1 else 0) 0 ByteArray.empty [] [] by unfold unJ; rfl]; unfold PlG; exact ⟨by simp, by simp only [PlGs]⟩
  | int b => rw [show unJ (.int b) = .mk 2 b 0 ByteArray.empty [] [] by unfold unJ; rfl]; unfold PlG; exact ⟨by simp, by simp only [PlGs]⟩
  | flt b => rw [show unJ (.flt b) = .mk 3 0 b ByteArray.empty [] [] by unfold unJ; rfl]; unfold PlG; exact ⟨by simp, by simp only [PlGs]⟩
  | str b => rw [show unJ (.str b) = .mk 4 0 0 b [] [] by unfold unJ; rfl]; unfold PlG; exact ⟨by simp, by simp only [PlGs]⟩
theorem plainMapS_p (x : GV) : PCall Try.prog 56 [qV x] (qV (cleanM x.keys x.l gMap)) := by
  have := pcall_V1V (P := Try.prog) (f := 56) (x := x) (y := cleanM x.keys x.l gMap) (fun w v hv => cleanMap_any x (fun y _ => clean_any y) w v hv)
  rw [pdV_eq, pdV_eq] at this
  exact this
theorem plainList_p (l : List GV) : PCall Try.prog 54 [.sl 6 88 (pdVs l)] (.sl 6 88 (pdVs (cleanL l))) := by
  intro w F vs hF hv
  unfold Reps at hv
  obtain ⟨v, r', rfl, hx, hr⟩ := hv
  unfold Reps at hr
  subst hr
  unfold Rep at hx
  rw [pdVs_len] at hx
  obtain ⟨a, c, rfl, h1, h2, h3, h4⟩ := hx
  refine (plainList_any l (fun y _ => clean_any y) w a c h2 ?_).mono ?_
  · rcases h4 with h4 | ⟨b, o, hb, rfl, hr⟩
    · left
      cases l with
      | nil => rfl
      | cons _ _ => unfold pdVs at h4; cases h4
    · exact .inr ⟨b, o, ⟨Nat.zero_le _, hF b hb⟩, rfl, IsVs.keep (fun _ _ => rfl) (fun b hb => ⟨Nat.zero_le _, hF b hb⟩) l b o hb (repL_isVs l hr)⟩
  · rintro e w' ⟨A, C, he, hlc, hb, hl⟩
    refine ⟨_, he, hb, ?_⟩
    have hcl : (cleanL l).length = l.length := cleanL_length l
    unfold Rep
    rw [pdVs_len, hcl]
    refine ⟨A, C, rfl, hlc, h2, by omega, ?_⟩
    rcases hl with rfl | ⟨b, o, hb', rfl, hv'⟩
    · left; simp [cleanL, pdVs]
    · exact .inr ⟨b, o, .inr hb', rfl, isVs_repL _ (IsVs.keep (fun _ _ => rfl) (fun b hb => .inr hb) _ b o hb' hv')⟩
instance : MI Try.prog 139 "AsList" 138 (some 173) := ⟨by kernel_rfl⟩
theorem asListO_p (l : List JV) : PCall Try.prog 138 [.agg [pdJ (.list l)]] (dvL l) := by
  refine pcall_of_run Try.func138 rfl Try.ntmps138 rfl (fun X => ?_)
  repeat' (first
    | refine run_seq ?_
    | (refine k_pick rfl ?_; first | refine k_assignD rfl rfl ?_ | refine k_loadW rfl rfl rfl (by first | rfl | (simp only [cellsD]; rfl)) ?_ | refine k_boxW rfl rfl rfl (by first | rfl | (simp only [cellsD]; rfl)) ?_ | refine k_build rfl rfl rfl ?_ | refine k_ifaceP rfl rfl (by kernel_rfl) ?_)
    | refine run_opsEnd ?_
    | refine run_region ?_
    | fail)
  refine run_frz (fun t => Nat.beq t 133) (fun k => Nat.beq k 5) ?_
  repeat' (first
    | (refine k_pick rfl ?_; first | refine k_assignD rfl rfl ?_ | refine k_call rfl (by kernel_rfl) rfl (by first | exact asList_p l) ?_)
    | refine run_opsEnd ?_
    | refine run_retOk (resOk_tmp rfl rfl ?_)
    | fail)
  all_goals exact PLe.refl _
theorem pcall_arg0' {P : Program} {f : FuncId} {d d' r : PD} {ds : List PD} (hle : PLe d d') (h : PCall P f (d' :: ds) r) : PCall P f (d :: ds) r := by
  intro w F vs hF hv
  refine h w F vs hF ?_
  unfold Reps at hv ⊢
  obtain ⟨v, r', e, h1, h2⟩ := hv
  exact ⟨v, r', e, hle _ _ _ h1, h2⟩
theorem PLs_list (l : List GV) (k : Int) : PLe (.agg [.val (.int .i64 k), .val (.int .i64 0), .val (.float .f64 0), .val (.string ⟨#[]⟩), .val (.slice none 0 0), .sl 6 88 (pdVs l)]) (qV (.mk k 0 0 ByteArray.empty [] l)) := by
  refine PLe.aggs ⟨PLe.refl _, PLe.refl _, PLe.refl _, PLe.refl _, ?_, PLe.refl _, trivial⟩
  show PLe _ (.sl 1 16 (pdS []))
  unfold pdS
  exact PLe.nil 1 16
theorem toList_p (l : List GV) : PCall Try.prog 58 [.sl 6 88 (pdVs l)] (dvL (plainJs l)) := by
  have c1 := pcall_arg0' (PLs_list l 5) (toValue_p (.mk 5 0 0 ByteArray.empty [] l))
  have e : plainJ (.mk 5 0 0 ByteArray.empty [] l) = .list (plainJs l) := by unfold plainJ; rfl
  rw [e] at c1
  have c2 := asListO_p (plainJs l)
  generalize plainJs l = l' at *
  refine pcall_of_run Try.func58 rfl Try.ntmps58 rfl (fun X => ?_)
  repeat' (first
    | refine run_seq ?_
    | (refine k_pick rfl ?_; first | refine k_assignD rfl rfl ?_ | refine k_moveD rfl rfl ?_ | refine k_call rfl (by kernel_rfl) rfl (by first | exact c1 | exact c2) ?_ | refine k_build rfl rfl rfl ?_ | refine k_invD rfl rfl rfl (by kernel_rfl) rfl (by first | exact c1 | exact c2) ?_)
    | refine run_opsEnd ?_
    | refine run_region ?_
    | refine run_retOk (resOk_tmp rfl rfl ?_)
    | fail)
  all_goals exact PLe.refl _
theorem toMapping_p (x : GV) (hl : x.l.length * 88 ≤ 140737488351232) (hk : x.keys.length ≤ 140737488351232) : PCall Try.prog 60 [qV x] (dvM (plainM x.keys x.l [])) := by
  have c1 := plainMap_c x hl hk
  have c2 := newVI_c 106 (mapR (plainM x.keys x.l []))
  have c3 := asMapO_c (plainM x.keys x.l [])
  generalize plainM x.keys x.l [] = m at *
  refine pcall_of_run Try.func60 rfl Try.ntmps60 rfl (fun X => ?_)
  repeat' (first
    | refine run_seq ?_
    | (refine k_pick rfl ?_; first | refine k_ifaceO rfl rfl (by kernel_rfl) ?_ | refine k_invAB1 (thk [(1000, _)] 200) rfl rfl rfl rfl (by kernel_rfl) c3 rfl ⟨rfl, trivial⟩ rfl (freshB_ok rfl) rfl ?_ | refine k_assignD rfl rfl ?_ | refine k_loadW rfl rfl rfl (by first | rfl | (simp only [cellsD]; rfl)) ?_ | refine k_boxW rfl rfl rfl (by first | rfl | (simp only [cellsD]; rfl)) ?_ | refine k_acall1 (thk [] 200) rfl (by kernel_rfl) (c1) rfl trivial rfl (freshB_ok rfl) rfl ?_ | refine k_acall1 (thk [(1000, _)] 350) rfl (by kernel_rfl) (c2) rfl ⟨rfl, trivial⟩ rfl (freshB_ok rfl) rfl ?_ | refine k_assignI rfl rfl ?_)
    | refine run_opsEnd ?_
    | refine run_region ?_
    | fail)
  refine run_frz (fun _ => false) (fun k => Nat.beq k 200) ?_
  refine run_retOk (resOk_tmp rfl rfl ?_)
  exact PLe.refl _
end Go.Proofs.Ytbbacpdbbmjblaa
end
section
set_option linter.unusedVariables false
namespace Go.Proofs.Ytbbacpdbbmjblaa
set_option linter.unusedSimpArgs false
open Ieee
structure Tri (p q r : Int) : Prop where
  rp : p = -1 ∨ p = 0 ∨ p = 1
  rq : q = -1 ∨ q = 0 ∨ q = 1
  rr : r = -1 ∨ r = 0 ∨ r = 1
  zp : p = 0 → r = q
  zq : q = 0 → r = p
  lt : p = -1 → q = -1 → r = -1
  gt : p = 1 → q = 1 → r = 1
def rng (p : Int) : Prop := p = -1 ∨ p = 0 ∨ p = 1
def lx (a r : Int) : Int := if a ≠ 0 then a else r
theorem rng_lx {a r : Int} (h : rng a) (h' : rng r) : rng (lx a r) := by
  unfold rng lx at *
  split <;> assumption
theorem rng_cmpI (a b : Int) : rng (cmpI a b) := by
  unfold cmpI rng
  split
  · exact .inl rfl
  · split
    · exact .inr (.inr rfl)
    · exact .inr (.inl rfl)
theorem tri_cmpI (a b c : Int) : Tri (cmpI a b) (cmpI b c) (cmpI a c) := by
  have e : ∀ x y : Int, (cmpI x y = -1 ∧ x < y) ∨ (cmpI x y = 0 ∧ x = y) ∨ (cmpI x y = 1 ∧ y < x) := fun x y => by
    unfold cmpI
    by_cases h : x < y
    · rw [if_pos h]; exact .inl ⟨rfl, h⟩
    · rw [if_neg h]
      by_cases h' : y < x
      · rw [if_pos h']; exact .inr (.inr ⟨rfl, h'⟩)
      · rw [if_neg h']; exact .inr (.inl ⟨rfl, by omega⟩)
  have e1 := e a b
  have e2 := e b c
  have e3 := e a c
  constructor <;> omega
theorem cmpI_swap (a b : Int) : cmpI b a = - cmpI a b := by
  unfold cmpI
  by_cases h : a < b
  · rw [if_pos h, if_neg (by omega), if_pos h]; rfl
  · by_cases h' : b < a
    · rw [if_pos h', if_neg h, if_pos h']
    · rw [if_neg h', if_neg h, if_neg h, if_neg h']; rfl
theorem cmpI_zero {a b : Int} : cmpI a b = 0 ↔ a = b := by
  unfold cmpI
  by_cases h : a < b
  · rw [if_pos h]; constructor <;> intro h' <;> omega
  · rw [if_neg h]
    by_cases h' : b < a
    · rw [if_pos h']; constructor <;> intro h' <;> omega
    · rw [if_neg h']; constructor <;> intro h' <;> omega
theorem rng_cmpS (a b : ByteArray) : rng (cmpS a b) := by
  unfold cmpS rng
  split
  · exact .inl rfl
  · split
    · exact .inr (.inr rfl)
    · exact .inr (.inl rfl)
theorem cmpS_cases (a b : ByteArray) : (cmpS a b = -1 ∧ blt a b = true) ∨ (cmpS a b = 0 ∧ a = b) ∨ (cmpS a b = 1 ∧ blt b a = true) := by
  unfold cmpS
  cases h : blt a b with
  | true => exact .inl ⟨rfl, rfl⟩
  | false =>
    cases h' : blt b a with
    | true => exact .inr (.inr ⟨rfl, rfl⟩)
    | false => exact .inr (.inl ⟨rfl, blt_total h h'⟩)
theorem cmpS_zero {a b : ByteArray} : cmpS a b = 0 ↔ a = b := by
  constructor
  · intro h
    rcases cmpS_cases a b with h' | h' | h'
    · omega
    · exact h'.2
    · omega
  · rintro rfl
    rcases cmpS_cases a a with h' | h' | h'
    · rw [blt_irrefl] at h'; cases h'.2
    · exact h'.1
    · rw [blt_irrefl] at h'; cases h'.2
theorem cmpS_swap (a b : ByteArray) : cmpS b a = - cmpS a b := by
  rcases cmpS_cases a b with h | h | h
  · rw [h.1]; unfold cmpS; rw [if_neg (by rw [blt_asymm h.2]; simp), if_pos h.2]; rfl
  · rw [h.1, h.2]; rw [cmpS_zero.2 rfl]; rfl
  · rw [h.1]; unfold cmpS; rw [if_pos h.2]
def ordI : Option Ordering → Int
  | some .lt => -1
  | some .gt => 1
  | _ => 0
theorem ordI_compare (a b : Int) : ordI (some (compare a b)) = cmpI a b := by
  unfold cmpI
  by_cases h : a < b
  · rw [if_pos h, show compare a b = .lt from Int.compare_eq_lt.2 h]; rfl
  · rw [if_neg h]
    by_cases h' : b < a
    · rw [if_pos h', show compare a b = .gt from Int.compare_eq_gt.2 h']; rfl
    · rw [if_neg h', show compare a b = .eq from Int.compare_eq_eq.2 (by omega)]; rfl
theorem cmpFs_ord (a b : Nat) : cmpFs a b = ordI (FloatKind.f64.format.order a b) := by
  unfold cmpFs
  cases FloatKind.f64.format.order a b with
  | none => rfl
  | some o => cases o <;> rfl
theorem order_swap (d e : Datum) : ordI (e.order d) = - ordI (d.order e) := by
  cases d with
  | nan _ _ => cases e <;> rfl
  | infinity s =>
    cases e with
    | nan _ _ => rfl
    | infinity t => cases s <;> cases t <;> rfl
    | number t n j => cases s <;> rfl
  | number s m i =>
    cases e with
    | nan _ _ => rfl
    | infinity t => cases t <;> rfl
    | number t n j =>
      show ordI (some (compare (signed t n (j - min j i).toNat) (signed s m (i - min j i).toNat))) = - ordI (some (compare (signed s m (i - min i j).toNat) (signed t n (j - min i j).toNat)))
      rw [ordI_compare, ordI_compare, show min j i = min i j by omega, cmpI_swap]
theorem cmpFs_swap (a b : Nat) : cmpFs b a = - cmpFs a b := by rw [cmpFs_ord, cmpFs_ord]; exact order_swap _ _
theorem rng_cmpFs (a b : Nat) : rng (cmpFs a b) := by
  rw [cmpFs_ord]
  unfold rng
  cases FloatKind.f64.format.order a b with
  | none => exact .inr (.inl rfl)
  | some o => cases o <;> decide
end Go.Proofs.Ytbbacpdbbmjblaa
end
section
set_option linter.unusedVariables false
namespace Go.Proofs.Ytbbacpdbbmjblaa
set_option linter.unusedSimpArgs false
theorem lx_neg (a r : Int) : lx (-a) (-r) = - lx a r := by
  unfold lx
  by_cases h : a = 0
  · rw [if_neg (by simp [h]), if_neg (by simp [h])]
  · rw [if_pos (by omega), if_pos h]
theorem lx_pos {a r : Int} (h : a ≠ 0) : lx a r = a := if_pos h
theorem lx_zero {a r : Int} (h : a = 0) : lx a r = r := if_neg (by simp [h])
/-- Numbers compared. -/
def cmpNu (x y : GV) : Int := if x.kind = 2 ∧ y.kind = 2 then cmpI x.n y.n else cmpFs (asF x) (asF y)
def bodyP (r : Int) (x y : GV) : Int := if r = 0 then cmpNu x y else if r = 1 then cmpS x.s y.s else if r = 2 then cmpI x.n y.n else if r = 3 then cmpPl x.l y.l else if r = 4 then cmpPm x.keys x.l y.keys y.l else 0
theorem cmpP_lx (x y : GV) : cmpP x y = lx (cmpI (rankV x) (rankV y)) (bodyP (rankV x) x y) := by
  cases x; cases y
  simp only [cmpP]
  rfl
theorem cmpPl_cons (x y : GV) (r q : List GV) : cmpPl (x :: r) (y :: q) = lx (cmpP x y) (cmpPl r q) := by simp only [cmpPl]; rfl
theorem cmpPm_cons (k k' : ByteArray) (ks ks' : List ByteArray) (x y : GV) (r q : List GV) : cmpPm (k :: ks) (x :: r) (k' :: ks') (y :: q) = lx (cmpS k k') (lx (cmpP x y) (cmpPm ks r ks' q)) := by simp only [cmpPm]; rfl
theorem cmpPl_nil (b : List GV) : cmpPl [] b = cmpI 0 b.length := by simp only [cmpPl]
theorem cmpPl_nil' (a : List GV) : cmpPl a [] = cmpI a.length 0 := by cases a <;> simp only [cmpPl] <;> rfl
theorem cmpI_self (a : Int) : cmpI a a = 0 := cmpI_zero.2 rfl
theorem rng_Pl : ∀ {a b : List GV}, (∀ x ∈ a, ∀ y, rng (cmpP x y)) → rng (cmpPl a b)
  | [], b, _ => by rw [cmpPl_nil]; exact rng_cmpI _ _
  | a :: r, [], _ => by rw [cmpPl_nil']; exact rng_cmpI _ _
  | x :: r, y :: q, h => by rw [cmpPl_cons]; exact rng_lx (h x (by simp) y) (rng_Pl fun z hz => h z (by simp [hz]))
theorem rng_Pm : ∀ {ks : List ByteArray} {a : List GV} {ks' : List ByteArray} {b : List GV}, (∀ x ∈ a, ∀ y, rng (cmpP x y)) → rng (cmpPm ks a ks' b)
  | [], _, _, _, _ => by simp only [cmpPm]; exact rng_cmpI _ _
  | _ :: _, [], _, _, _ => by simp only [cmpPm]; exact rng_cmpI _ _
  | _ :: _, _ :: _, [], _, _ => by simp only [cmpPm]; exact rng_cmpI _ _
  | _ :: _, _ :: _, _ :: _, [], _ => by simp only [cmpPm]; exact rng_cmpI _ _
  | k :: ks, x :: r, k' :: ks', y :: q, h => by
    rw [cmpPm_cons]
    exact rng_lx (rng_cmpS _ _) (rng_lx (h x (by simp) y) (rng_Pm fun z hz => h z (by simp [hz])))
theorem rng_cmpNu (x y : GV) : rng (cmpNu x y) := by
  unfold cmpNu
  split
  · exact rng_cmpI _ _
  · exact rng_cmpFs _ _
theorem rng_body (r : Int) {x y : GV} (h : ∀ z ∈ x.l, ∀ u, rng (cmpP z u)) : rng (bodyP r x y) := by
  unfold bodyP
  split
  · exact rng_cmpNu _ _
  · split
    · exact rng_cmpS _ _
    · split
      · exact rng_cmpI _ _
      · split
        · exact rng_Pl h
        · split
          · exact rng_Pm h
          · exact .inr (.inl rfl)
theorem sz_l {x z : GV} (h : z ∈ x.l) : SizeOf.sizeOf z < SizeOf.sizeOf x := by
  cases x
  have := List.sizeOf_lt_of_mem h
  simp only [GV.mk.sizeOf_spec]
  have e : ∀ (k n : Int) (f : Nat) (s : ByteArray) (ks : List ByteArray) (l : List GV), (GV.mk k n f s ks l).l = l := fun _ _ _ _ _ _ => rfl
  rw [e] at this
  omega
theorem rng_P (x y : GV) : rng (cmpP x y) := by
  induction hk : SizeOf.sizeOf x using Nat.strongRecOn generalizing x y with
  | _ n IH =>
  subst hk
  rw [cmpP_lx]
  exact rng_lx (rng_cmpI _ _) (rng_body _ fun z hz u => IH _ (sz_l hz) z u rfl)
theorem swap_Pl : ∀ {a b : List GV}, (∀ x ∈ a, ∀ y, cmpP y x = - cmpP x y) → cmpPl b a = - cmpPl a b
  | [], b, _ => by rw [cmpPl_nil, cmpPl_nil', cmpI_swap]
  | a :: r, [], _ => by rw [cmpPl_nil, cmpPl_nil', cmpI_swap]
  | x :: r, y :: q, h => by rw [cmpPl_cons, cmpPl_cons, h x (by simp), swap_Pl fun z hz => h z (by simp [hz]), lx_neg]
theorem swap_Pm : ∀ {ks : List ByteArray} {a : List GV} {ks' : List ByteArray} {b : List GV}, (∀ x ∈ a, ∀ y, cmpP y x = - cmpP x y) → cmpPm ks' b ks a = - cmpPm ks a ks' b
  | [], a, ks', b, _ => by cases ks' <;> cases b <;> cases a <;> simp only [cmpPm] <;> exact cmpI_swap _ _
  | k :: ks, [], ks', b, _ => by cases ks' <;> cases b <;> simp only [cmpPm] <;> exact cmpI_swap _ _
  | _ :: _, _ :: _, [], b, _ => by cases b <;> simp only [cmpPm] <;> exact cmpI_swap _ _
  | _ :: _, _ :: _, _ :: _, [], _ => by simp only [cmpPm]; exact cmpI_swap _ _
  | k :: ks, x :: r, k' :: ks', y :: q, h => by
    rw [cmpPm_cons, cmpPm_cons, cmpS_swap k k', h x (by simp), swap_Pm fun z hz => h z (by simp [hz]), lx_neg, lx_neg]
theorem swap_P (x y : GV) : cmpP y x = - cmpP x y := by
  induction hk : SizeOf.sizeOf x using Nat.strongRecOn generalizing x y with
  | _ n IH =>
  subst hk
  rw [cmpP_lx, cmpP_lx, cmpI_swap (rankV x)]
  by_cases hr : rankV x = rankV y
  · have hb : bodyP (rankV y) y x = - bodyP (rankV x) x y := by
      rw [← hr]
      unfold bodyP
      split
      · unfold cmpNu
        by_cases h : x.kind = 2 ∧ y.kind = 2
        · rw [if_pos h, if_pos ⟨h.2, h.1⟩, cmpI_swap]
        · rw [if_neg h, if_neg (fun h' => h ⟨h'.2, h'.1⟩), cmpFs_swap]
      · split
        · exact cmpS_swap _ _
        · split
          · exact cmpI_swap _ _
          · split
            · exact swap_Pl fun z hz u => IH _ (sz_l hz) z u rfl
            · split
              · exact swap_Pm fun z hz u => IH _ (sz_l hz) z u rfl
              · rfl
    rw [hb, lx_neg]
  · have h1 : cmpI (rankV x) (rankV y) ≠ 0 := fun h => hr (cmpI_zero.1 h)
    rw [lx_pos (by omega), lx_pos h1]
end Go.Proofs.Ytbbacpdbbmjblaa
end
section
set_option linter.unusedVariables false
namespace Go.Proofs.Ytbbacpdbbmjblaa
open Go.RowKit
set_option linter.unusedSimpArgs false
theorem plainM_nd (ks : List ByteArray) (l : List GV) : ((plainM ks l []).map (·.1)).Nodup := (unM_plainM ks l [] (fun y _ => un_plain y) (by simp)).2
theorem fits5_no (x : GV) (h : ¬ (x.l.length ≤ 2147483647 ∧ x.keys.length ≤ 2147483647)) : PCall Try.prog 15 [qV x] (.val (.bool false)) := by
  have c := fits2_p x.keys
  have hl := pdVs_len x.l
  cases h1 : decide ((2147483647 : Int) < (x.s.size : Int)) with
  | true =>
    refine pcall_of_run Try.func15 rfl Try.ntmps15 rfl (fun X => ?_)
    repeat' (first
    | refine run_seq ?_
    | (refine k_pick rfl ?_; first | refine k_assignD rfl rfl ?_ | refine k_fieldAddrB rfl rfl rfl ?_ | refine k_loadBD rfl rfl rfl (by first | rfl | (simp only [cellsD]; rfl)) ?_ | refine k_bin2B rfl rfl rfl rfl ?_ | refine k_boxW rfl rfl rfl (by first | rfl | (simp only [cellsD]; rfl)) ?_ | refine k_lenS rfl rfl (by kernel_rfl) ?_)
    | refine run_opsEnd ?_
    | refine run_region ?_
    | refine run_condT rfl (by first | rfl | assumption) ?_
    | refine run_retOk (resOk_tmp rfl rfl ?_)
    | fail)
    all_goals exact PLe.refl _
  | false =>
    cases h2 : fitS x.keys with
    | false =>
      rw [h2] at c
      refine pcall_of_run Try.func15 rfl Try.ntmps15 rfl (fun X => ?_)
      repeat' (first
    | refine run_seq ?_
    | (refine k_pick rfl ?_; first | refine k_assignD rfl rfl ?_ | refine k_fieldAddrB rfl rfl rfl ?_ | refine k_loadBD rfl rfl rfl (by first | rfl | (simp only [cellsD]; rfl)) ?_ | refine k_bin2B rfl rfl rfl rfl ?_ | refine k_boxW rfl rfl rfl (by first | rfl | (simp only [cellsD]; rfl)) ?_ | refine k_call rfl (by kernel_rfl) rfl (by first | exact c) ?_ | refine k_lenS rfl rfl (by kernel_rfl) ?_ | refine k_not rfl rfl ?_)
    | refine run_opsEnd ?_
    | refine run_region ?_
    | refine run_condT rfl (by first | rfl | assumption) ?_
    | refine run_condF rfl (by first | rfl | assumption) ?_
    | refine run_skip ?_
    | refine run_retOk (resOk_tmp rfl rfl ?_)
    | fail)
      all_goals exact PLe.refl _
    | true =>
      have h3 : decide ((2147483647 : Int) < (((pdVs x.l).length : Nat) : Int)) = true := by
        rw [hl]
        unfold fitS at h2
        simp only [Bool.and_eq_true, Bool.not_eq_true', decide_eq_false_iff_not] at h2
        simp only [decide_eq_true_eq]
        omega
      rw [h2] at c
      refine pcall_of_run Try.func15 rfl Try.ntmps15 rfl (fun X => ?_)
      repeat' (first
    | refine run_seq ?_
    | (refine k_pick rfl ?_; first | refine k_assignD rfl rfl ?_ | refine k_fieldAddrB rfl rfl rfl ?_ | refine k_loadBD rfl rfl rfl (by first | rfl | (simp only [cellsD]; rfl)) ?_ | refine k_bin2B rfl rfl rfl rfl ?_ | refine k_boxW rfl rfl rfl (by first | rfl | (simp only [cellsD]; rfl)) ?_ | refine k_call rfl (by kernel_rfl) rfl (by first | exact c) ?_ | refine k_lenS rfl rfl (by kernel_rfl) ?_ | refine k_lenD rfl rfl ?_ | refine k_not rfl rfl ?_)
    | refine run_opsEnd ?_
    | refine run_region ?_
    | refine run_condT rfl (by first | rfl | assumption) ?_
    | refine run_condF rfl (by first | rfl | assumption) ?_
    | refine run_skip ?_
    | refine run_retOk (resOk_tmp rfl rfl ?_)
    | fail)
      all_goals exact PLe.refl _
end Go.Proofs.Ytbbacpdbbmjblaa
end
section
set_option linter.unusedVariables false
namespace Go.Proofs.Ytbbacpdbbmjblaa
open Go.RowKit
set_option linter.unusedSimpArgs false
theorem listCompare_p (l q : List JV) : PCall Try.prog 67 [dvL l, dvL q] (.val (.int .i64 (cmpLs cmpJ l q))) := by
  have hC := lstCmp_p cmpJ l q (fun x _ y _ => cmp_p y x)
  generalize cmpLs cmpJ l q = c at *
  refine pcall_of_run Try.func67 rfl Try.ntmps67 rfl (fun X => ?_)
  repeat' (first
    | refine run_seq ?_
    | (refine k_pick rfl ?_; first | refine k_assignD rfl rfl ?_ | refine k_moveD rfl rfl ?_ | refine k_boxW rfl rfl rfl (by first | rfl | (simp only [cellsD]; rfl)) ?_ | refine k_build rfl rfl rfl ?_ | refine k_ifaceP rfl rfl (by kernel_rfl) ?_ | refine k_callZ gV rfl (by kernel_rfl) rfl (by first | exact hC) Flat.val ?_)
    | refine run_opsEnd ?_
    | refine run_region ?_
    | refine run_retOk (resOk_tmp rfl rfl ?_)
    | fail)
  all_goals exact PLe.refl _
theorem listLess_p (l q : List JV) : PCall Try.prog 57 [dvL l, dvL q] (.val (.bool (decide (cmpLs cmpJ l q = -1)))) := by
  have hC := listCompare_p l q
  generalize cmpLs cmpJ l q = c at *
  refine pcall_of_run Try.func57 rfl Try.ntmps57 rfl (fun X => ?_)
  repeat' (first
    | refine run_seq ?_
    | (refine k_pick rfl ?_; first | refine k_assignD rfl rfl ?_ | refine k_moveD rfl rfl ?_ | refine k_bin2B rfl rfl rfl rfl ?_ | refine k_call rfl (by kernel_rfl) rfl (by first | exact hC) ?_)
    | refine run_opsEnd ?_
    | refine run_region ?_
    | refine run_retOk (resOk_tmp rfl rfl ?_)
    | fail)
  all_goals exact PLe.refl _
theorem mapCompare_p (m q : List (ByteArray × JV)) (hp : (m.map (·.1)).Nodup) (hq : (q.map (·.1)).Nodup) (hl : (m.length + q.length) * 16 ≤ 140737488351232) : PCall Try.prog 85 [dvM m, dvM q] (.val (.int .i64 (cmpMs cmpJ m q))) := by
  have hC := mapCmp_p cmpJ m q hp hq hl (fun k x y _ _ => cmp_p y x)
  clear hp hq hl
  generalize cmpMs cmpJ m q = c at *
  refine pcall_of_run Try.func85 rfl Try.ntmps85 rfl (fun X => ?_)
  repeat' (first
    | refine run_seq ?_
    | (refine k_pick rfl ?_; first | refine k_assignD rfl rfl ?_ | refine k_moveD rfl rfl ?_ | refine k_boxW rfl rfl rfl (by first | rfl | (simp only [cellsD]; rfl)) ?_ | refine k_build rfl rfl rfl ?_ | refine k_ifaceP rfl rfl (by kernel_rfl) ?_ | refine k_callZ gV rfl (by kernel_rfl) rfl (by first | exact hC) Flat.val ?_)
    | refine run_opsEnd ?_
    | refine run_region ?_
    | refine run_retOk (resOk_tmp rfl rfl ?_)
    | fail)
  all_goals exact PLe.refl _
theorem mapLess_p (m q : List (ByteArray × JV)) (hp : (m.map (·.1)).Nodup) (hq : (q.map (·.1)).Nodup) (hl : (m.length + q.length) * 16 ≤ 140737488351232) : PCall Try.prog 59 [dvM m, dvM q] (.val (.bool (decide (cmpMs cmpJ m q = -1)))) := by
  have hC := mapCompare_p m q hp hq hl
  clear hp hq hl
  generalize cmpMs cmpJ m q = c at *
  refine pcall_of_run Try.func59 rfl Try.ntmps59 rfl (fun X => ?_)
  repeat' (first
    | refine run_seq ?_
    | (refine k_pick rfl ?_; first | refine k_assignD rfl rfl ?_ | refine k_moveD rfl rfl ?_ | refine k_bin2B rfl rfl rfl rfl ?_ | refine k_call rfl (by kernel_rfl) rfl (by first | exact hC) ?_)
    | refine run_opsEnd ?_
    | refine run_region ?_
    | refine run_retOk (resOk_tmp rfl rfl ?_)
    | fail)
  all_goals exact PLe.refl _
theorem JOks_plain {l : List GV} (h : Fits (.sl 6 88 (pdVs l))) : JOks (plainJs l) := by
  obtain ⟨w, F, v, h⟩ := h
  unfold Rep at h
  obtain ⟨a, c, rfl, _, _, _, h⟩ := h
  refine plainJs_ok l fun y hy => ?_
  rcases h with h | ⟨b, o, _, _, hr⟩
  · cases l with
    | nil => cases hy
    | cons _ _ => unfold pdVs at h; cases h
  · exact plain_ok y (GOks_mem (IsVs.gok _ (repL_isVs l hr)) y hy)
theorem cmp_plains {a b : List GV} (ha : Fits (.sl 6 88 (pdVs a))) (hb : Fits (.sl 6 88 (pdVs b))) : cmpLs cmpJ (plainJs a) (plainJs b) = cmpPl (cleanL a) (cleanL b) := by
  have h1 := JOks_plain ha
  have h2 := JOks_plain hb
  rw [← unJs_plainJs a (fun y _ => un_plain y), ← unJs_plainJs b (fun y _ => un_plain y)]
  exact (cmp_list (plainJs b) (plainJs a) (fun y _ x hx hy => cmp_law y x hx hy) h1 h2).symm
theorem lessLists_p (a b : List GV) : PCall Try.prog 22 [.sl 6 88 (pdVs a), .sl 6 88 (pdVs b)] (.val (.bool (decide (cmpPl (cleanL a) (cleanL b) = -1)))) := by
  refine pcall_fits fun hf => ?_
  have e := cmp_plains (hf (.sl 6 88 (pdVs a)) (by simp)) (hf (.sl 6 88 (pdVs b)) (by simp))
  clear hf
  have c1 := toList_p a
  have c2 := toList_p b
  have c3 := listLess_p (plainJs a) (plainJs b)
  rw [e] at c3
  clear e
  generalize cmpPl (cleanL a) (cleanL b) = c at *
  generalize plainJs a = ja at *
  generalize plainJs b = jb at *
  refine pcall_of_run Try.func22 rfl Try.ntmps22 rfl (fun X => ?_)
  repeat' (first
    | refine run_seq ?_
    | (refine k_pick rfl ?_; first | refine k_assignD rfl rfl ?_ | refine k_moveD rfl rfl ?_ | refine k_call rfl (by kernel_rfl) rfl (by first | exact c1 | exact c2 | exact c3) ?_)
    | refine run_opsEnd ?_
    | refine run_region ?_
    | refine run_retOk (resOk_tmp rfl rfl ?_)
    | fail)
  all_goals exact PLe.refl _
theorem cmp_plainMs {x y : GV} (hx : GOk x) (hy : GOk y) : cmpMs cmpJ (plainM x.keys x.l []) (plainM y.keys y.l []) = cmpPm (cleanM x.keys x.l gMap).keys (cleanM x.keys x.l gMap).l (cleanM y.keys y.l gMap).keys (cleanM y.keys y.l gMap).l := by
  have ok : ∀ {x : GV}, GOk x → JOk (.map (plainM x.keys x.l [])) ∧ unJ (.map (plainM x.keys x.l [])) = cleanM x.keys x.l gMap := fun {x} hx => by
    obtain ⟨k, n, f, s, ks, l⟩ := x
    have h := plain_ok (.mk 6 n f s ks l) (by unfold GOk at hx ⊢; exact hx)
    rw [show plainJ (.mk 6 n f s ks l) = .map (plainM ks l []) by unfold plainJ; rfl] at h
    refine ⟨h, ?_⟩
    have h2 := un_plain (.mk 6 n f s ks l)
    rw [show plainJ (.mk 6 n f s ks l) = .map (plainM ks l []) by unfold plainJ; rfl] at h2
    rw [show cleanV (.mk 6 n f s ks l) = cleanM ks l gMap by unfold cleanV; rfl] at h2
    exact h2
  obtain ⟨o1, e1⟩ := ok hx
  obtain ⟨o2, e2⟩ := ok hy
  rw [← cmpJ_map, ← cmp_law _ _ o1 o2, ← e1, ← e2]
  have r : ∀ m : List (ByteArray × JV), rankV (unJ (.map m)) = 4 := fun m => rank_un (.map m)
  rw [cmpP_lx, r, r, lx_zero (cmpI_self 4)]
  rfl
theorem lessMaps_p (x y : GV) (hl : x.l.length * 88 ≤ 140737488351232) (hk : x.keys.length ≤ 140737488351232) (hl' : y.l.length * 88 ≤ 140737488351232) (hk' : y.keys.length ≤ 140737488351232) (hs : (x.l.length + y.l.length) * 16 ≤ 140737488351232) :
    PCall Try.prog 23 [qV x, qV y] (.val (.bool (decide (cmpPm (cleanM x.keys x.l gMap).keys (cleanM x.keys x.l gMap).l (cleanM y.keys y.l gMap).keys (cleanM y.keys y.l gMap).l = -1)))) := by
  refine pcall_fits fun hf => ?_
  obtain ⟨w0, F0, v0, h0⟩ := hf (qV x) (by simp)
  obtain ⟨w1, F1, v1, h1⟩ := hf (qV y) (by simp)
  have e := cmp_plainMs (IsV.gok x (rep_isV x (by rw [pdV_eq]; exact h0))) (IsV.gok y (rep_isV y (by rw [pdV_eq]; exact h1)))
  clear hf h0 h1
  have n1 := plainM_len x.keys x.l []
  have n2 := plainM_len y.keys y.l []
  simp only [List.length_nil] at n1 n2
  have c1 := toMapping_p x hl hk
  have c2 := toMapping_p y hl' hk'
  have c3 := mapLess_p (plainM x.keys x.l []) (plainM y.keys y.l []) (plainM_nd _ _) (plainM_nd _ _) (by omega)
  rw [e] at c3
  clear e n1 n2 hl hk hl' hk' hs
  generalize cmpPm (cleanM x.keys x.l gMap).keys (cleanM x.keys x.l gMap).l (cleanM y.keys y.l gMap).keys (cleanM y.keys y.l gMap).l = c at *
  generalize plainM x.keys x.l [] = ja at *
  generalize plainM y.keys y.l [] = jb at *
  refine pcall_of_run Try.func23 rfl Try.ntmps23 rfl (fun X => ?_)
  repeat' (first
    | refine run_seq ?_
    | (refine k_pick rfl ?_; first | refine k_assignD rfl rfl ?_ | refine k_boxW rfl rfl rfl (by first | rfl | (simp only [cellsD]; rfl)) ?_)
    | refine run_opsEnd ?_
    | refine run_region ?_
    | refine run_retOk (resOk_tmp rfl rfl ?_)
    | refine run_drawC (by kernel_rfl) ?_
    | refine c_nil (And.intro (by kernel_rfl) ?_)
    | refine c_pick (d_assignD rfl rfl) ?_
    | refine c_pick (d_loadW rfl rfl rfl (by first | rfl | (simp only [cellsD]; rfl))) ?_
    | refine c_pick (d_call rfl (by kernel_rfl) rfl (by first | exact c1 | exact c2 | exact c3)) ?_
    | fail)
  all_goals exact PLe.refl _
theorem sCmpLists_p (a b : List GV) : PCall Try.prog 20 [.sl 6 88 (pdVs a), .sl 6 88 (pdVs b)] (.val (.int .i64 (cmpPl (cleanL a) (cleanL b)))) := by
  refine pcall_fits fun hf => ?_
  have G : ∀ {l : List GV}, Fits (.sl 6 88 (pdVs l)) → ∀ y ∈ cleanL l, PlG y := fun {l} h y hy => by
    have hj := JOks_plain h
    obtain ⟨i, hi⟩ := List.getElem?_of_mem hy
    rw [cleanL_at] at hi
    cases hl : l[i]? with
    | none => rw [hl] at hi; cases hi
    | some z =>
      rw [hl] at hi
      have hi : cleanV z = y := Option.some.inj hi
      rw [← hi, ← un_plain]
      refine PlG_un _ ?_
      have hz := List.mem_of_getElem? hl
      clear hl hi hy h
      induction l with
      | nil => cases hz
      | cons u r ih =>
        simp only [plainJs, JOks] at hj
        rcases List.mem_cons.1 hz with rfl | hz
        · exact hj.1
        · exact ih hj.2 hz
  have g1 := G (hf (.sl 6 88 (pdVs a)) (by simp))
  have g2 := G (hf (.sl 6 88 (pdVs b)) (by simp))
  have c3 := sLists_p (cleanL a) (cleanL b) (fun x hx y hy => sPlain_p x y (g1 x hx) (g2 y hy))
  clear hf g1 g2 G
  have c1 := plainList_p a
  have c2 := plainList_p b
  generalize cleanL a = a' at *
  generalize cleanL b = b' at *
  refine pcall_of_run Try.func20 rfl Try.ntmps20 rfl (fun X => ?_)
  repeat' (first
    | refine run_seq ?_
    | (refine k_pick rfl ?_; first | refine k_assignD rfl rfl ?_ | refine k_moveD rfl rfl ?_ | refine k_call rfl (by kernel_rfl) rfl (by first | exact c1 | exact c2 | exact c3) ?_)
    | refine run_opsEnd ?_
    | refine run_region ?_
    | refine run_retOk (resOk_tmp rfl rfl ?_)
    | fail)
  all_goals exact PLe.refl _
theorem PlG.l {x : GV} (h : PlG x) : x.keys.length ≤ x.l.length ∧ ∀ y ∈ x.l, PlG y := by
  cases x
  unfold PlG at h
  exact ⟨h.1, PlGs_mem h.2⟩
theorem sCmpMaps_p (x y : GV) : PCall Try.prog 21 [qV x, qV y] (.val (.int .i64 (cmpPm (cleanM x.keys x.l gMap).keys (cleanM x.keys x.l gMap).l (cleanM y.keys y.l gMap).keys (cleanM y.keys y.l gMap).l))) := by
  refine pcall_fits fun hf => ?_
  have G : ∀ {x : GV}, Fits (qV x) → PlG (cleanM x.keys x.l gMap) := fun {x} h => by
    obtain ⟨w0, F0, v0, h0⟩ := h
    have hg := IsV.gok x (rep_isV x (by rw [pdV_eq]; exact h0))
    obtain ⟨k, n, f, s, ks, l⟩ := x
    have h := PlG_un _ (plain_ok (.mk 6 n f s ks l) (by unfold GOk at hg ⊢; exact hg))
    rw [un_plain, show cleanV (.mk 6 n f s ks l) = cleanM ks l gMap by unfold cleanV; rfl] at h
    exact h
  have g1 := (G (hf (qV x) (by simp))).l
  have g2 := (G (hf (qV y) (by simp))).l
  clear hf G
  have c1 := plainMapS_p x
  have c2 := plainMapS_p y
  generalize cleanM x.keys x.l gMap = x' at *
  generalize cleanM y.keys y.l gMap = y' at *
  have c3 : PCall Try.prog 55 [qV x', qV y'] (.val (.int .i64 (cmpPm x'.keys x'.l y'.keys y'.l))) := by
    cases x'; cases y'
    exact sMaps_p _ _ _ _ _ _ _ _ _ _ _ _ g1.1 g2.1 (fun a ha b hb => sPlain_p a b (g1.2 a ha) (g2.2 b hb))
  clear g1 g2
  refine pcall_of_run Try.func21 rfl Try.ntmps21 rfl (fun X => ?_)
  repeat' (first
    | refine run_seq ?_
    | (refine k_pick rfl ?_; first | refine k_assignD rfl rfl ?_ | refine k_boxW rfl rfl rfl (by first | rfl | (simp only [cellsD]; rfl)) ?_)
    | refine run_opsEnd ?_
    | refine run_region ?_
    | refine run_retOk (resOk_tmp rfl rfl ?_)
    | refine run_drawC (by kernel_rfl) ?_
    | refine c_nil (And.intro (by kernel_rfl) ?_)
    | refine c_pick (d_assignD rfl rfl) ?_
    | refine c_pick (d_loadW rfl rfl rfl (by first | rfl | (simp only [cellsD]; rfl))) ?_
    | refine c_pick (d_call rfl (by kernel_rfl) rfl (by first | exact c1 | exact c2 | exact c3)) ?_
    | fail)
  all_goals exact PLe.refl _
end Go.Proofs.Ytbbacpdbbmjblaa
end
section
namespace Go.Proofs.Ytbbacpdbbmjblaa
open Go.RowKit
set_option linter.unusedSimpArgs false
set_option maxHeartbeats 1000000 in
set_option maxRecDepth 100000 in
theorem ordVals_any (l : List GV) (w : World) (a1 : Option Addr) (c1 : Nat) (hl88 : l.length * 88 ≤ 140737488351232) (hl : l = [] ∨ ∃ b o, Btw 0 w.heap.size b ∧ a1 = some ⟨b, o, none⟩ ∧ IsVs w (Btw 0 w.heap.size) l b o) :
    Calls Try.prog 19 #[.slice a1 l.length c1] w fun e w' => e = .returned (.bool (ordL l)) ∧ Below w.heap.size w w' := by
  go_enter Try.func19, Try.ntmps19
  go_wp2_with fail
  go_loopw [7] (fun i wr => ∃ k : Nat, k ≤ l.length ∧ i = .int .i64 (k : Nat) ∧ Below w.heap.size w wr ∧ ∀ y ∈ l.take k, ordV y = true) (fun i _ => l.length - (intOf i).toNat)
  case atStart => exact ⟨0, Nat.zero_le _, rfl, Below.refl _ _, by simp⟩
  case round =>
    obtain ⟨k, hk, rfl, hB, hall⟩ := hrel
    by_cases hlt : k < l.length
    · obtain ⟨b, o, hb, rfl, hcells⟩ := vals_at hl (by omega)
      obtain ⟨y, hy⟩ : ∃ y, l[k]? = some y := ⟨l[k], by simp [hlt]⟩
      obtain ⟨e0, f0, e1, f1, g0, g1, g2, g3, g4, g5, hyv⟩ := (IsVs.keep (S' := Btw 0 wr.heap.size) (Btw.kept hB) (Btw.mono (Nat.le_refl _) hB.size) l b o hb hcells).cells hy
      have hc := ord_any y
      have hyA := hyv.alloc_ (.cells #[.int .i64 y.kind, .int .i64 y.n, .float .f64 y.f, .string y.s, .slice e0 y.keys.length f0, .slice e1 y.l.length f1] 43)
      have HY := Lib.hid (And.intro hy (And.intro hall hB))
      have j0 : (0 : Int) ≤ (k : Int) := by omega
      have j1 : (k : Int) < (l.length : Int) := by omega
      have hs := hB.size
      clear hy hall hB hcells hyv
      go_wp2_with (go_at_call 16; (with_reducible refine (hc.use _ _ ?_).mono ?_))
      · simpa using hyA
      rintro e w2 ⟨rfl, hB2'⟩
      obtain ⟨hy, hall, hB⟩ := HY.out
      have hB2 : Below w.heap.size w w2 := (hB.alloc hs (.cells #[.int .i64 y.kind, .int .i64 y.n, .float .f64 y.f, .string y.s, .slice e0 y.keys.length f0, .slice e1 y.l.length f1] 43)).trans (hB2'.mono (by simp; omega))
      clear g0 g1 g2 g3 g4 g5 hyA hc HY hB2'
      cases ho : ordV y with
      | false =>
        have hf : ordL l = false := by
          cases h : ordL l with
          | false => rfl
          | true => rw [ordL_iff.1 h y (List.mem_of_getElem? hy)] at ho; cases ho
        go_wp2_with fail
        go_ret
        rw [hf]
        exact ⟨rfl, hB2⟩
      | true =>
        have HF := Lib.hid (show ∀ z ∈ l.take (k + 1), ordV z = true from fun z hz => by
          rw [List.take_add_one, hy] at hz
          rcases List.mem_append.1 hz with hz | hz
          · exact hall z hz
          · simp at hz; subst hz; exact ho)
        clear hall hy hB
        go_wp2_with fail
        go_roundw
        case rel => exact ⟨k + 1, hlt, by go_num, hB2, HF.out⟩
        case measure => simp [intOf]; omega
    · have hkl : k = l.length := by omega
      subst hkl
      have ht : ordL l = true := ordL_iff.2 (by rw [List.take_length] at hall; exact hall)
      have HT := Lib.hid ht
      clear ht hall
      go_wp2_with fail
      go_ret
      rw [HT.out]
      exact ⟨rfl, hB⟩
end Go.Proofs.Ytbbacpdbbmjblaa
end
section
set_option linter.unusedVariables false
namespace Go.Proofs.Ytbbacpdbbmjblaa
open Go.RowKit
set_option linter.unusedSimpArgs false
theorem ordVals_q (l : List GV) : PCall Try.prog 19 [.sl 6 88 (pdVs l)] (.val (.bool (ordL l))) := by
  intro w F vs hF hv
  unfold Reps at hv
  obtain ⟨v, r', rfl, hx, hr⟩ := hv
  unfold Reps at hr
  subst hr
  unfold Rep at hx
  rw [pdVs_len] at hx
  obtain ⟨a, c, rfl, h1, h2, h3, h4⟩ := hx
  refine (ordVals_any l w a c h2 ?_).mono ?_
  · rcases h4 with h4 | ⟨b, o, hb, rfl, hr⟩
    · left
      cases l with
      | nil => rfl
      | cons _ _ => unfold pdVs at h4; cases h4
    · exact .inr ⟨b, o, ⟨Nat.zero_le _, hF b hb⟩, rfl, IsVs.keep (fun _ _ => rfl) (fun b hb => ⟨Nat.zero_le _, hF b hb⟩) l b o hb (repL_isVs l hr)⟩
  · rintro e w' ⟨he, hb⟩
    exact ⟨_, he, hb, by unfold Rep; exact ⟨rfl, trivial⟩⟩
set_option maxHeartbeats 8000000 in
theorem lawLM_p (x y : GV) : PCall Try.prog 5 [qV x, qV y] (.val (.bool true)) := by
  by_cases hx : x.l.length ≤ 2147483647 ∧ x.keys.length ≤ 2147483647
  rotate_left
  · have c1 := fits5_no x hx
    refine pcall_of_run Try.func5 rfl Try.ntmps5 rfl (fun X => ?_)
    repeat' (first
    | refine run_seq ?_
    | (refine k_pick rfl ?_; first | refine k_assignD rfl rfl ?_ | refine k_moveD rfl rfl ?_ | refine k_loadW rfl rfl rfl (by first | rfl | (simp only [cellsD]; rfl)) ?_ | refine k_pickT rfl rfl (by first | rfl | assumption) rfl ?_ | refine k_boxW rfl rfl rfl (by first | rfl | (simp only [cellsD]; rfl)) ?_ | refine k_call rfl (by kernel_rfl) rfl (by first | exact c1) ?_ | refine k_not rfl rfl ?_)
    | refine run_opsEnd ?_
    | refine run_region ?_
    | refine run_condT rfl (by first | rfl | assumption) ?_
    | refine k_guardNF rfl rfl (by first | rfl | assumption) rfl ?_
    | refine run_retOk (resOk_tmp rfl rfl ?_)
    | fail)
    all_goals exact PLe.refl _
  obtain ⟨b1, c1⟩ := fits5_p x
  cases b1 with
  | false =>
    refine pcall_of_run Try.func5 rfl Try.ntmps5 rfl (fun X => ?_)
    repeat' (first
    | refine run_seq ?_
    | (refine k_pick rfl ?_; first | refine k_assignD rfl rfl ?_ | refine k_moveD rfl rfl ?_ | refine k_loadW rfl rfl rfl (by first | rfl | (simp only [cellsD]; rfl)) ?_ | refine k_pickT rfl rfl (by first | rfl | assumption) rfl ?_ | refine k_boxW rfl rfl rfl (by first | rfl | (simp only [cellsD]; rfl)) ?_ | refine k_call rfl (by kernel_rfl) rfl (by first | exact c1) ?_ | refine k_not rfl rfl ?_)
    | refine run_opsEnd ?_
    | refine run_region ?_
    | refine run_condT rfl (by first | rfl | assumption) ?_
    | refine k_guardNF rfl rfl (by first | rfl | assumption) rfl ?_
    | refine run_retOk (resOk_tmp rfl rfl ?_)
    | fail)
    all_goals exact PLe.refl _
  | true =>
  by_cases hy : y.l.length ≤ 2147483647 ∧ y.keys.length ≤ 2147483647
  rotate_left
  · have c2 := fits5_no y hy
    refine pcall_of_run Try.func5 rfl Try.ntmps5 rfl (fun X => ?_)
    repeat' (first
    | refine run_seq ?_
    | (refine k_pick rfl ?_; first | refine k_assignD rfl rfl ?_ | refine k_moveD rfl rfl ?_ | refine k_loadW rfl rfl rfl (by first | rfl | (simp only [cellsD]; rfl)) ?_ | refine k_pickF rfl rfl (by first | rfl | assumption) rfl ?_ | refine k_boxW rfl rfl rfl (by first | rfl | (simp only [cellsD]; rfl)) ?_ | refine k_call rfl (by kernel_rfl) rfl (by first | exact c1 | exact c2) ?_ | refine k_not rfl rfl ?_)
    | refine run_opsEnd ?_
    | refine run_region ?_
    | refine run_condT rfl (by first | rfl | assumption) ?_
    | (refine k_guardY rfl rfl (by first | rfl | assumption) ?_; first | refine k_loadW rfl rfl rfl (by first | rfl | (simp only [cellsD]; rfl)) ?_ | refine k_call rfl (by kernel_rfl) rfl (by first | exact c1 | exact c2) ?_ | refine k_not rfl rfl ?_)
    | refine run_retOk (resOk_tmp rfl rfl ?_)
    | fail)
    all_goals exact PLe.refl _
  obtain ⟨b2, c2⟩ := fits5_p y
  cases b2 with
  | false =>
    refine pcall_of_run Try.func5 rfl Try.ntmps5 rfl (fun X => ?_)
    repeat' (first
    | refine run_seq ?_
    | (refine k_pick rfl ?_; first | refine k_assignD rfl rfl ?_ | refine k_moveD rfl rfl ?_ | refine k_loadW rfl rfl rfl (by first | rfl | (simp only [cellsD]; rfl)) ?_ | refine k_pickF rfl rfl (by first | rfl | assumption) rfl ?_ | refine k_boxW rfl rfl rfl (by first | rfl | (simp only [cellsD]; rfl)) ?_ | refine k_call rfl (by kernel_rfl) rfl (by first | exact c1 | exact c2) ?_ | refine k_not rfl rfl ?_)
    | refine run_opsEnd ?_
    | refine run_region ?_
    | refine run_condT rfl (by first | rfl | assumption) ?_
    | (refine k_guardY rfl rfl (by first | rfl | assumption) ?_; first | refine k_loadW rfl rfl rfl (by first | rfl | (simp only [cellsD]; rfl)) ?_ | refine k_call rfl (by kernel_rfl) rfl (by first | exact c1 | exact c2) ?_ | refine k_not rfl rfl ?_)
    | refine run_retOk (resOk_tmp rfl rfl ?_)
    | fail)
    all_goals exact PLe.refl _
  | true =>
  have c3 := ordVals_q x.l
  have c4 := ordVals_q y.l
  generalize ordL x.l = o1 at *
  generalize ordL y.l = o2 at *
  cases o1 with
  | false =>
    refine pcall_of_run Try.func5 rfl Try.ntmps5 rfl (fun X => ?_)
    repeat' (first
    | refine run_seq ?_
    | (refine k_pick rfl ?_; first | refine k_assignD rfl rfl ?_ | refine k_moveD rfl rfl ?_ | refine k_fieldAddrB rfl rfl rfl ?_ | refine k_loadW rfl rfl rfl (by first | rfl | (simp only [cellsD]; rfl)) ?_ | refine k_loadBD rfl rfl rfl (by first | rfl | (simp only [cellsD]; rfl)) ?_ | refine k_pickT rfl rfl (by first | rfl | assumption) rfl ?_ | refine k_pickF rfl rfl (by first | rfl | assumption) rfl ?_ | refine k_boxW rfl rfl rfl (by first | rfl | (simp only [cellsD]; rfl)) ?_ | refine k_call rfl (by kernel_rfl) rfl (by first | exact c1 | exact c2 | exact c3 | exact c4) ?_ | refine k_not rfl rfl ?_)
    | refine run_opsEnd ?_
    | refine run_region ?_
    | refine run_condT rfl (by first | rfl | assumption) ?_
    | refine run_condF rfl (by first | rfl | assumption) ?_
    | (refine k_guardY rfl rfl (by first | rfl | assumption) ?_; first | refine k_loadW rfl rfl rfl (by first | rfl | (simp only [cellsD]; rfl)) ?_ | refine k_call rfl (by kernel_rfl) rfl (by first | exact c1 | exact c2 | exact c3 | exact c4) ?_ | refine k_not rfl rfl ?_)
    | refine k_guardNF rfl rfl (by first | rfl | assumption) rfl ?_
    | refine run_skip ?_
    | refine run_retOk (resOk_tmp rfl rfl ?_)
    | fail)
    all_goals exact PLe.refl _
  | true =>
  cases o2 with
  | false =>
    refine pcall_of_run Try.func5 rfl Try.ntmps5 rfl (fun X => ?_)
    repeat' (first
    | refine run_seq ?_
    | (refine k_pick rfl ?_; first | refine k_assignD rfl rfl ?_ | refine k_moveD rfl rfl ?_ | refine k_fieldAddrB rfl rfl rfl ?_ | refine k_loadW rfl rfl rfl (by first | rfl | (simp only [cellsD]; rfl)) ?_ | refine k_loadBD rfl rfl rfl (by first | rfl | (simp only [cellsD]; rfl)) ?_ | refine k_pickF rfl rfl (by first | rfl | assumption) rfl ?_ | refine k_boxW rfl rfl rfl (by first | rfl | (simp only [cellsD]; rfl)) ?_ | refine k_call rfl (by kernel_rfl) rfl (by first | exact c1 | exact c2 | exact c3 | exact c4) ?_ | refine k_not rfl rfl ?_)
    | refine run_opsEnd ?_
    | refine run_region ?_
    | refine run_condT rfl (by first | rfl | assumption) ?_
    | refine run_condF rfl (by first | rfl | assumption) ?_
    | (refine k_guardY rfl rfl (by first | rfl | assumption) ?_; first | refine k_fieldAddrB rfl rfl rfl ?_ | refine k_loadW rfl rfl rfl (by first | rfl | (simp only [cellsD]; rfl)) ?_ | refine k_loadBD rfl rfl rfl (by first | rfl | (simp only [cellsD]; rfl)) ?_ | refine k_call rfl (by kernel_rfl) rfl (by first | exact c1 | exact c2 | exact c3 | exact c4) ?_ | refine k_not rfl rfl ?_)
    | refine run_skip ?_
    | refine run_retOk (resOk_tmp rfl rfl ?_)
    | fail)
    all_goals exact PLe.refl _
  | true =>
  have c5 := sCmpLists_p x.l y.l
  have c6 := sCmpMaps_p x y
  have c7 := lessLists_p x.l y.l
  have c8 := lessLists_p y.l x.l
  have c9 := lessMaps_p x y (by omega) (by omega) (by omega) (by omega) (by omega)
  have c10 := lessMaps_p y x (by omega) (by omega) (by omega) (by omega) (by omega)
  rw [swap_Pl (a := cleanL x.l) (b := cleanL y.l) (fun x _ y => swap_P x y)] at c8
  rw [swap_Pm (ks := (cleanM x.keys x.l gMap).keys) (a := (cleanM x.keys x.l gMap).l) (ks' := (cleanM y.keys y.l gMap).keys) (b := (cleanM y.keys y.l gMap).l) (fun x _ y => swap_P x y)] at c10
  have r1 := rng_Pl (a := cleanL x.l) (b := cleanL y.l) (fun x _ y => rng_P x y)
  have r2 := rng_Pm (ks := (cleanM x.keys x.l gMap).keys) (a := (cleanM x.keys x.l gMap).l) (ks' := (cleanM y.keys y.l gMap).keys) (b := (cleanM y.keys y.l gMap).l) (fun x _ y => rng_P x y)
  generalize cmpPl (cleanL x.l) (cleanL y.l) = c at *
  generalize cmpPm (cleanM x.keys x.l gMap).keys (cleanM x.keys x.l gMap).l (cleanM y.keys y.l gMap).keys (cleanM y.keys y.l gMap).l = d at *
  clear hx hy
  refine pcall_of_run Try.func5 rfl Try.ntmps5 rfl (fun X => ?_)
  rcases r1 with rfl | rfl | rfl <;> rcases r2 with rfl | rfl | rfl
  all_goals
    repeat' (first
    | refine run_seq ?_
    | (refine k_pick rfl ?_; first | refine k_assignD rfl rfl ?_ | refine k_moveD rfl rfl ?_ | refine k_fieldAddrB rfl rfl rfl ?_ | refine k_loadW rfl rfl rfl (by first | rfl | (simp only [cellsD]; rfl)) ?_ | refine k_loadBD rfl rfl rfl (by first | rfl | (simp only [cellsD]; rfl)) ?_ | refine k_bin2B rfl rfl rfl rfl ?_ | refine k_pickT rfl rfl (by first | rfl | assumption) rfl ?_ | refine k_pickF rfl rfl (by first | rfl | assumption) rfl ?_ | refine k_boxW rfl rfl rfl (by first | rfl | (simp only [cellsD]; rfl)) ?_ | refine k_call rfl (by kernel_rfl) rfl (by first | exact c1 | exact c2 | exact c3 | exact c4 | exact c5 | exact c6 | exact c7 | exact c8 | exact c9 | exact c10) ?_ | refine k_cmpBool rfl rfl rfl (by kernel_rfl) rfl ?_ | refine k_not rfl rfl ?_)
    | refine run_opsEnd ?_
    | refine run_region ?_
    | refine run_condF rfl (by first | rfl | assumption) ?_
    | (refine k_guardY rfl rfl (by first | rfl | assumption) ?_; first | refine k_moveD rfl rfl ?_ | refine k_fieldAddrB rfl rfl rfl ?_ | refine k_loadW rfl rfl rfl (by first | rfl | (simp only [cellsD]; rfl)) ?_ | refine k_loadBD rfl rfl rfl (by first | rfl | (simp only [cellsD]; rfl)) ?_ | refine k_bin2B rfl rfl rfl rfl ?_ | refine k_call rfl (by kernel_rfl) rfl (by first | exact c1 | exact c2 | exact c3 | exact c4 | exact c5 | exact c6 | exact c7 | exact c8 | exact c9 | exact c10) ?_ | refine k_cmpBool rfl rfl rfl (by kernel_rfl) rfl ?_ | refine k_not rfl rfl ?_)
    | refine run_skip ?_
    | refine run_retOk (resOk_tmp rfl rfl ?_)
    | refine run_drawC (by kernel_rfl) ?_
    | refine c_nil (And.intro (by kernel_rfl) ?_)
    | refine c_pick (d_assignD rfl rfl) ?_
    | refine c_pick (d_fieldAddrB rfl rfl rfl) ?_
    | refine c_pick (d_loadW rfl rfl rfl (by first | rfl | (simp only [cellsD]; rfl))) ?_
    | refine c_pick (d_loadBD rfl rfl rfl (by first | rfl | (simp only [cellsD]; rfl))) ?_
    | refine c_pick (d_call rfl (by kernel_rfl) rfl (by first | exact c1 | exact c2 | exact c3 | exact c4 | exact c5 | exact c6 | exact c7 | exact c8 | exact c9 | exact c10)) ?_
    | fail)
  all_goals exact PLe.refl _
end Go.Proofs.Ytbbacpdbbmjblaa
end
section
namespace Go.Proofs.Ytbbacpdbbmjblaa
open Go.ChangeShapes Go.WideShapes Go.ChangeAt Go.RowKit
theorem trodFloat {H : Type} {enc : TypeId × Value → H} {P : Program} {w : World} {base : Nat} {spare : Nat → Bool} {held : Bool} {fuel : Nat} {t : TypeId} {cs : List Value} {x : DataW H × List MemPlace} {k : FloatKind}
    (ht : P.underlying t = some (.float k)) (h : DataW.trod enc P w base spare held fuel t cs = some x) : ∃ n, cs = [.float k n] ∧ (Lit.float k n).wf = true := by
  cases fuel with
  | zero => simp [DataW.trod] at h
  | succ n =>
    unfold DataW.trod at h
    rw [ht] at h
    split at h <;> simp_all
theorem weights_mem_all {H : Type} {P : Program} {e : TypeId} : ∀ {ds : List (DataW H)} {d : DataW H}, d ∈ ds → ∀ n ∈ d.weights P e, n ∈ DataW.weightsAll P e ds
  | d0 :: ds, d, hd, n, hn => by
    simp only [DataW.weightsAll, List.mem_append]
    rcases List.mem_cons.1 hd with rfl | hd
    · exact .inl hn
    · exact .inr (weights_mem_all hd n hn)
theorem Try.cellsVal : Try.prog.cellsOf 43 = 6 := by kernel_rfl
theorem Try.cellsStr : Try.prog.cellsOf 9 = 1 := by kernel_rfl
theorem Try.cellsInt : Try.prog.cellsOf 3 = 1 := by kernel_rfl
theorem Try.cellsInt64 : Try.prog.cellsOf 2 = 1 := by kernel_rfl
theorem Try.cellsFlt : Try.prog.cellsOf 40 = 1 := by kernel_rfl
theorem Try.cellsStrs : Try.prog.cellsOf 41 = 1 := by kernel_rfl
theorem Try.cellsVals : Try.prog.cellsOf 33 = 1 := by kernel_rfl
theorem Try.bytesVal : Try.prog.bytesOf 43 = 88 := by kernel_rfl
theorem Try.bytesStr : Try.prog.bytesOf 9 = 16 := by kernel_rfl
theorem cells_six {w : World} {base : Nat} {a : Addr} {cs : List Value} (h : w.cells? base a 6 = some cs) :
    ∃ c0 c1 c2 c3 c4 c5, cs = [c0, c1, c2, c3, c4, c5] ∧ w.cell? a = some c0 ∧ w.cell? (a.add 1) = some c1 ∧ w.cell? (a.add 2) = some c2 ∧ w.cell? (a.add 3) = some c3 ∧ w.cell? (a.add 4) = some c4 ∧ w.cell? (a.add 5) = some c5 := by
  unfold World.cells? at h
  split at h
  · simp only [List.range, List.range.loop, List.mapM_cons, List.mapM_nil] at h
    simp only [Option.bind_eq_bind, Option.bind_eq_some_iff, Option.pure_def, Option.some.injEq] at h
    obtain ⟨c0, h0, l1, ⟨c1, h1, l2, ⟨c2, h2, l3, ⟨c3, h3, l4, ⟨c4, h4, l5, ⟨c5, h5, l6, e6, e5⟩, e4⟩, e3⟩, e2⟩, e1⟩, e0⟩ := h
    subst e6 e5 e4 e3 e2 e1 e0
    exact ⟨c0, c1, c2, c3, c4, c5, rfl, by simpa [Addr.add] using h0, h1, h2, h3, h4, h5⟩
  · simp at h
theorem isVs_of {w : World} {S : Nat → Prop} {b : Nat} : ∀ (n o : Nat), (∀ i, i < n → ∃ x c0 c1 c2 c3 c4 c5, w.cell? ⟨b, o + i * 6, none⟩ = some c0 ∧ w.cell? ⟨b, o + i * 6 + 1, none⟩ = some c1 ∧ w.cell? ⟨b, o + i * 6 + 2, none⟩ = some c2 ∧
      w.cell? ⟨b, o + i * 6 + 3, none⟩ = some c3 ∧ w.cell? ⟨b, o + i * 6 + 4, none⟩ = some c4 ∧ w.cell? ⟨b, o + i * 6 + 5, none⟩ = some c5 ∧ IsV w S x (.agg #[c0, c1, c2, c3, c4, c5])) → ∃ l : List GV, l.length = n ∧ IsVs w S l b o
  | 0, _, _ => ⟨[], rfl, by simp [IsVs]⟩
  | n + 1, o, h => by
    obtain ⟨x, c0, c1, c2, c3, c4, c5, h0⟩ := h 0 (Nat.succ_pos _)
    obtain ⟨l, hl, hv⟩ := isVs_of (w := w) (S := S) (b := b) n (o + 6) (fun i hi => by
      have := h (i + 1) (by omega)
      rwa [show o + (i + 1) * 6 = o + 6 + i * 6 by omega] at this)
    refine ⟨x :: l, by simp [hl], ?_⟩
    unfold IsVs
    exact ⟨⟨c0, c1, c2, c3, c4, c5, by simpa using h0⟩, hv⟩
theorem isStrs_of_trod {H : Type} {enc : TypeId × Value → H} {w : World} {fuel : Nat} {cs : List Value} {d : DataW H} {ps : List MemPlace}
    (h : DataW.trod enc Try.prog w 0 (fun _ => true) true fuel 41 cs = some (d, ps)) (hw : ∀ n ∈ d.weights Try.prog 41, n ≤ reachBytes) :
    ∃ v ks, cs = [v] ∧ IsStrs w (Btw 0 w.heap.size) v ks := by
  rcases open_strings Try.underlying41 Try.underlying9 Try.cellsStr h with ⟨rfl, hx⟩ | ⟨a, len, cap, ss, rfl, _, hl, hm, hz, hx, hcell, hws⟩
  · exact ⟨_, [], rfl, none, 0, rfl, Nat.le_refl _, by decide, by simp, fun h => by simp at h⟩
  · simp only [if_true] at hz
    simp only [Prod.mk.injEq] at hx
    obtain ⟨rfl, rfl⟩ := hx
    have hlen : (ss.take len).length = len := by simp; omega
    have hsz := hw (((strs (H := H) (ss.take len)).length + (strs (H := H) (ss.drop len)).length) * Try.prog.bytesOf 9) (by simp [DataW.weights, Try.underlying41])
    rw [Try.bytesStr] at hsz
    simp only [strs, List.length_map, List.length_take, List.length_drop, reachBytes] at hsz
    refine ⟨_, ss.take len, rfl, some a, cap, by rw [hlen], by rw [hlen]; exact hl, by rw [hlen]; omega, fun s hs => hws s (List.mem_of_mem_take hs), fun hp => ?_⟩
    rw [hlen] at hp
    have h0 := hcell 0 (by omega)
    have hspot : a.spot = none := by simpa [Addr.add] using World.cell?_spot h0
    obtain ⟨b, o, sp⟩ := a
    subst hspot
    refine ⟨b, o, ⟨Nat.zero_le _, by have := World.block_lt_of_cell? w _ h0; simpa [Addr.add] using this⟩, rfl, fun i hi => ?_⟩
    rw [hlen] at hi
    have := hcell i (by omega)
    rw [add_plain] at this
    rw [this]
    simp [List.getD, hi]
set_option maxRecDepth 100000 in
set_option maxHeartbeats 1000000 in
theorem isV_of_trod {H : Type} {enc : TypeId × Value → H} {w : World} (fuel : Nat) {cs : List Value} {d : DataW H} {ps : List MemPlace}
    (h : DataW.trod enc Try.prog w 0 (fun _ => true) true fuel 43 cs = some (d, ps)) (hw : ∀ n ∈ d.weights Try.prog 43, n ≤ reachBytes) :
    ∃ x c0 c1 c2 c3 c4 c5, cs = [c0, c1, c2, c3, c4, c5] ∧ IsV w (Btw 0 w.heap.size) x (.agg #[c0, c1, c2, c3, c4, c5]) := by
  obtain ⟨xs, n, rfl, hx, hl, hlen, hf⟩ := DataW.trod_struct Try.underlying43 h
  rw [Try.cellsVal] at hl
  match cs, hl with
  | [c0, c1, c2, c3, c4, c5], _ =>
  match xs, hlen with
  | [y0, y1, y2, y3, y4, y5], _ =>
  have h0 : DataW.trod enc Try.prog w 0 (fun _ => true) true n 3 (([c0, c1, c2, c3, c4, c5].drop 0).take (Try.prog.cellsOf 3)) = some y0 := (by have g := hf 0 _ rfl; exact g)
  have h1 : DataW.trod enc Try.prog w 0 (fun _ => true) true n 2 (([c0, c1, c2, c3, c4, c5].drop 1).take (Try.prog.cellsOf 2)) = some y1 := (by have g := hf 1 _ rfl; exact g)
  have h2 : DataW.trod enc Try.prog w 0 (fun _ => true) true n 40 (([c0, c1, c2, c3, c4, c5].drop 2).take (Try.prog.cellsOf 40)) = some y2 := (by have g := hf 2 _ rfl; exact g)
  have h3 : DataW.trod enc Try.prog w 0 (fun _ => true) true n 9 (([c0, c1, c2, c3, c4, c5].drop 3).take (Try.prog.cellsOf 9)) = some y3 := (by have g := hf 3 _ rfl; exact g)
  have h4 : DataW.trod enc Try.prog w 0 (fun _ => true) true n 41 (([c0, c1, c2, c3, c4, c5].drop 4).take (Try.prog.cellsOf 41)) = some y4 := (by have g := hf 4 _ rfl; exact g)
  have h5 : DataW.trod enc Try.prog w 0 (fun _ => true) true n 33 (([c0, c1, c2, c3, c4, c5].drop 5).take (Try.prog.cellsOf 33)) = some y5 := (by have g := hf 5 _ rfl; exact g)
  clear hf h
  simp only [Try.cellsInt, Try.cellsInt64, Try.cellsFlt, Try.cellsStr, Try.cellsStrs, Try.cellsVals, List.drop_zero, List.drop_succ_cons, List.take_succ_cons, List.take_zero] at h0 h1 h2 h3 h4 h5
  simp only [Prod.mk.injEq] at hx
  obtain ⟨rfl, rfl⟩ := hx
  obtain ⟨k, e0, -, w0⟩ := DataW.trod_int Try.underlying3 h0
  obtain ⟨m, e1, -, w1⟩ := DataW.trod_int Try.underlying2 h1
  obtain ⟨f, e2, w2⟩ := trodFloat Try.underlying40 h2
  obtain ⟨s, e3, -, w3⟩ := DataW.trod_string Try.underlying9 h3
  simp only [DataW.weights, Try.underlying43, List.map_cons, List.map_nil, DataW.weightsEach, List.mem_append, List.append_nil] at hw
  obtain ⟨v4, ks, e4, hks⟩ := isStrs_of_trod (d := y4.1) (ps := y4.2) h4 (fun n hn => hw n (by simp [hn]))
  simp only [List.cons.injEq, and_true] at e0 e1 e2 e3 e4
  subst e0 e1 e2 e3 e4
  have hw5 : ∀ n ∈ y5.1.weights Try.prog 33, n ≤ reachBytes := fun n hn => hw n (by simp [hn])
  clear h0 h1 h2 h3 h4 hw
  rcases DataW.trod_slice Try.underlying33 h5 with ⟨e5, -⟩ | ⟨a, len, cap, elems, rest, n', hn', e5, hx5, _, hlc, hm, hlen5, hel, _, _⟩
  · simp only [List.cons.injEq, and_true] at e5
    subst e5
    refine ⟨.mk k m f s ks [], _, _, _, _, _, _, rfl, ?_⟩
    unfold IsV
    exact ⟨_, none, 0, rfl, w0, w1, w2, w3, hks, Nat.le_refl _, by decide, .inl rfl⟩
  · simp only [List.cons.injEq, and_true] at e5
    subst e5
    rw [hx5] at hw5
    simp only [DataW.weights, Try.underlying33, Try.bytesVal, List.length_map] at hw5
    have hsz := hw5 ((elems.length + rest.length) * 88) (by simp)
    simp only [reachBytes] at hsz
    rw [Try.cellsVal] at hel
    have key : ∀ i, i < len → ∃ x c0 c1 c2 c3 c4 c5, w.cell? (a.add (i * 6)) = some c0 ∧ w.cell? ((a.add (i * 6)).add 1) = some c1 ∧ w.cell? ((a.add (i * 6)).add 2) = some c2 ∧
        w.cell? ((a.add (i * 6)).add 3) = some c3 ∧ w.cell? ((a.add (i * 6)).add 4) = some c4 ∧ w.cell? ((a.add (i * 6)).add 5) = some c5 ∧ IsV w (Btw 0 w.heap.size) x (.agg #[c0, c1, c2, c3, c4, c5]) := by
      intro i hi
      have hb := hel i hi
      obtain ⟨y, hy⟩ : ∃ y, elems[i]? = some y := ⟨elems[i], by simp [hlen5, hi]⟩
      rw [hy, Option.bind_eq_some_iff] at hb
      obtain ⟨cs', hcs, hb⟩ := hb
      obtain ⟨x, c0, c1, c2, c3, c4, c5, rfl, hv⟩ := isV_of_trod n' (d := y.1) (ps := y.2) hb (fun q hq => hw5 q (by
        simp only [List.mem_cons, List.mem_append]
        exact .inr (.inl (weights_mem_all (List.mem_map_of_mem (List.mem_of_getElem? hy)) q hq))))
      obtain ⟨d0, d1, d2, d3, d4, d5, e, g⟩ := cells_six hcs
      simp only [List.cons.injEq, and_true] at e
      obtain ⟨rfl, rfl, rfl, rfl, rfl, rfl⟩ := e
      exact ⟨x, _, _, _, _, _, _, g.1, g.2.1, g.2.2.1, g.2.2.2.1, g.2.2.2.2.1, g.2.2.2.2.2, hv⟩
    by_cases hl0 : len = 0
    · subst hl0
      refine ⟨.mk k m f s ks [], _, _, _, _, _, _, rfl, ?_⟩
      unfold IsV
      exact ⟨_, some a, cap, rfl, w0, w1, w2, w3, hks, Nat.zero_le _, by decide, .inl rfl⟩
    · obtain ⟨_, _, _, _, _, _, _, g0, _⟩ := key 0 (by omega)
      have hspot : a.spot = none := by simpa [Addr.add] using World.cell?_spot g0
      have hlt := World.block_lt_of_cell? w _ g0
      obtain ⟨b, o, sp⟩ := a
      subst hspot
      simp only [add_plain] at key
      obtain ⟨l, hll, hvs⟩ := isVs_of (b := b) len o key
      refine ⟨.mk k m f s ks l, _, _, _, _, _, _, rfl, ?_⟩
      unfold IsV
      exact ⟨_, _, cap, by rw [hll], w0, w1, w2, w3, hks, by omega, by omega, .inr ⟨b, o, ⟨Nat.zero_le _, by simpa [Addr.add] using hlt⟩, rfl, hvs⟩⟩
termination_by fuel
decreasing_by omega
set_option maxRecDepth 100000 in
/-- An argument of type impl.Value. -/
theorem isV_of_arg {H : Type} {enc : TypeId × Value → H} {w : World} {v : Value} {d : DataW H} {ps : List MemPlace} {base : Nat} (hv : Value.okWide Try.prog w .any base 43 v)
    (h : DataW.Trod enc Try.prog w 0 (fun _ => true) true 43 v d ps) (hw : ∀ n ∈ d.weights Try.prog 43, n ≤ reachBytes) : ∃ x, IsV w (Btw 0 w.heap.size) x v := by
  obtain ⟨cs, rfl, _⟩ := okWide_struct Try.underlying43 hv
  obtain ⟨fuel, hf⟩ := h
  obtain ⟨x, c0, c1, c2, c3, c4, c5, e, hx⟩ := isV_of_trod fuel hf hw
  have : cs = #[c0, c1, c2, c3, c4, c5] := by
    have e' : cs.toList = [c0, c1, c2, c3, c4, c5] := e
    rw [← Array.toArray_toList (xs := cs), e']
  subst this
  exact ⟨x, hx⟩
end Go.Proofs.Ytbbacpdbbmjblaa
end
