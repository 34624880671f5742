import Derived.Test.YtlghpcokbppkfaaVal
set_option linter.unusedVariables false
/- zzFits2, zzFits5, impl.toValue as contracts on data. -/
namespace Go.Proofs.Ytlghpcokbppkfaa
open Go.RowKit
set_option linter.unusedSimpArgs false

theorem toValue_p (x : GV) : PCall Try.prog 65 [qV x] (dvV (plainJ x)) := by
  rw [show qV x = pdV x from (pdV_eq x).symm]
  refine pcall_fits fun hf => ?_
  obtain ⟨w0, F0, v0, h0⟩ := hf (pdV x) (by simp)
  have hok := plain_ok x (IsV.gok x (rep_isV x h0))
  refine pcall_V1 (R := fun w w' r => IsVal w' (Btw w.heap.size w'.heap.size) (plainJ x) r) (fun w v hv => toValue_any x w v hv) fun w w' r F h => ?_
  obtain ⟨b, c, rfl, hb, hh, hj⟩ := h
  unfold dvV Rep
  refine ⟨_, rfl, ?_⟩
  unfold Rep
  refine ⟨b, 0, .agg #[c], rfl, .inr hb, ?_, ?_⟩
  · unfold Rep
    refine ⟨[c], rfl, ?_, ?_⟩
    · unfold Reps
      refine ⟨c, [], rfl, ?_, by unfold Reps; rfl⟩
      unfold pdJ Rep
      exact ⟨IsJ.keep (fun _ _ => rfl) (fun b hb => .inr hb) _ hj, hok⟩
    · intro u hu
      simp at hu; subst hu; exact hj.oneCell
  · intro i u hu
    cases i with
    | zero =>
      simp [Value.cells] at hu
      subst hu
      rw [cell_of_row w' b _ _ _ _ hh]; rfl
    | succ i => simp [Value.cells] at hu
def fitS (ks : List ByteArray) : Bool := !decide ((2147483647 : Int) < (ks.length : Int)) && ks.all (fun k => !decide ((2147483647 : Int) < (k.size : Int)))
theorem fits2_p (ks : List ByteArray) : PCall Try.prog 64 [.sl 1 16 (pdS ks)] (.val (.bool (fitS ks))) := by
  refine pcall_fits fun hfit => ?_
  have b1 := (hfit (.sl 1 16 (pdS ks)) (by simp)).sl.2.1
  have hlen := pdS_len ks
  rw [hlen] at b1
  clear hfit
  refine pcall_of_run Try.func64 rfl Try.ntmps64 rfl (fun X => ?_)
  unfold fitS
  cases h0 : decide ((2147483647 : Int) < (ks.length : Int)) with
  | true =>
    have q0 : decide ((2147483647 : Int) < (((pdS ks).length : Nat) : Int)) = true := by rw [hlen]; exact h0
    repeat' (first
    | refine run_seq ?_
    | (refine k_pick rfl ?_; first | refine k_assignD rfl rfl ?_ | refine k_moveD rfl rfl ?_ | refine k_bin2B rfl rfl rfl rfl ?_ | refine k_lenD rfl rfl ?_)
    | refine run_opsEnd ?_
    | refine run_region ?_
    | refine run_condT rfl (by first | rfl | assumption) ?_
    | refine run_retOk (resOk_tmp rfl rfl ?_)
    | fail)
    all_goals exact PLe.refl _
  | false =>
    have q0 : decide ((2147483647 : Int) < (((pdS ks).length : Nat) : Int)) = false := by rw [hlen]; exact h0
    repeat' (first
    | refine run_seq ?_
    | (refine k_pick rfl ?_; first | refine k_assignD rfl rfl ?_ | refine k_moveD rfl rfl ?_ | refine k_bin2B rfl rfl rfl rfl ?_ | refine k_lenD rfl rfl ?_)
    | refine run_opsEnd ?_
    | refine run_region ?_
    | refine run_condF rfl (by first | rfl | assumption) ?_
    | refine run_block ?_
    | refine run_skip ?_
    | fail)
    refine run_loopS (ι := { j : Nat // j ≤ ks.length ∧ ∀ i x, i < j → ks[i]? = some x → decide ((2147483647 : Int) < (x.size : Int)) = false })
      (fun j => [(8, .dat (.sl 1 16 (pdS ks))), (9, .dat (.val (.int .i64 ((pdS ks).length : Nat)))), (10, .dat (.val (.int .i64 (j.1 : Nat))))])
      (fun _ => []) (fun j => ks.length - j.1) ⟨0, Nat.zero_le _, fun i _ h => absurd h (Nat.not_lt_zero i)⟩ id ?_ ?_
    · (refine ⟨?_, ?_, by rfl⟩ <;> repeat' (first | exact trivial | exact ALe.ptr rfl | exact ALe.own rfl | exact ALe.elt rfl | exact BLe.boxD _ _ | exact BLe.row rfl | exact BLe.res | exact ALe.dat (PLe.refl _) | exact CLe.nil | refine And.intro ?_ ?_ | refine ALe.iface ?_ | refine ALe.clo ?_ | refine CLe.cons ?_ ?_ | refine BLe.box ?_ | refine BLe.row ?_ | exact ALe.any _ | refine ALe.dat (PLe.of_eq ?_)))
    rintro ⟨j, hj, hall⟩
    by_cases hlt : j < ks.length
    · have hc : decide ((j : Int) < (((pdS ks).length : Nat) : Int)) = true := by rw [hlen]; simpa using hlt
      obtain ⟨x, hx⟩ : ∃ x, ks[j]? = some x := ⟨_, List.getElem?_eq_getElem hlt⟩
      have i1 : (pdS ks)[((j : Nat) : Int).toNat]? = some (.val (.string x)) := pdS_at hx
      cases h1 : decide ((2147483647 : Int) < (x.size : Int)) with
      | false =>
        repeat' (first
    | refine run_seq ?_
    | (refine k_pick rfl ?_; first | refine k_indexAddrD rfl rfl rfl (by first | omega | (dsimp only; omega)) (by assumption) ?_ | refine k_assignD rfl rfl ?_ | refine k_moveD rfl rfl ?_ | refine k_bin2B rfl rfl rfl rfl ?_ | refine k_lenS rfl rfl (by kernel_rfl) ?_ | refine k_ariI rfl rfl rfl rfl (by first | omega | (dsimp only; omega)) ?_ | refine k_loadD rfl rfl (by first | rfl | (simp only [cellsD]; rfl)) ?_)
    | refine run_opsEnd ?_
    | refine run_region ?_
    | refine run_condT rfl (by first | rfl | assumption) ?_
    | refine run_condF rfl (by first | rfl | assumption) ?_
    | refine run_block ?_
    | refine run_blkEnd ?_
    | refine run_skip ?_
    | fail)
        refine run_again ?_
        refine ⟨⟨j + 1, by omega, fun i y hi hy => ?_⟩, id, by simp only; omega, ?_⟩
        · by_cases e : i = j
          · subst e; rw [hx] at hy; cases hy; exact h1
          · exact hall i y (by omega) hy
        (refine ⟨?_, ?_, by rfl⟩ <;> repeat' (first | exact trivial | exact ALe.ptr rfl | exact ALe.own rfl | exact ALe.elt rfl | exact BLe.boxD _ _ | exact BLe.row rfl | exact BLe.res | exact ALe.dat (PLe.refl _) | exact CLe.nil | refine And.intro ?_ ?_ | refine ALe.iface ?_ | refine ALe.clo ?_ | refine CLe.cons ?_ ?_ | refine BLe.box ?_ | refine BLe.row ?_ | exact ALe.any _ | refine ALe.dat (PLe.of_eq ?_)))
      | true =>
        have e : ks.all (fun k => !decide ((2147483647 : Int) < (k.size : Int))) = false := by
          cases h : ks.all (fun k => !decide ((2147483647 : Int) < (k.size : Int))) with
          | false => rfl
          | true => have := List.all_eq_true.1 h x (List.mem_of_getElem? hx); rw [h1] at this; cases this
        rw [e]
        repeat' (first
    | refine run_seq ?_
    | (refine k_pick rfl ?_; first | refine k_indexAddrD rfl rfl rfl (by first | omega | (dsimp only; omega)) (by assumption) ?_ | refine k_assignD rfl rfl ?_ | refine k_moveD rfl rfl ?_ | refine k_bin2B rfl rfl rfl rfl ?_ | refine k_lenS rfl rfl (by kernel_rfl) ?_ | refine k_loadD rfl rfl (by first | rfl | (simp only [cellsD]; rfl)) ?_)
    | refine run_opsEnd ?_
    | refine run_region ?_
    | refine run_condT rfl (by first | rfl | assumption) ?_
    | refine run_block ?_
    | refine run_skip ?_
    | refine run_retOk (resOk_tmp rfl rfl ?_)
    | fail)
        all_goals exact PLe.refl _
    · have hc : decide ((j : Int) < (((pdS ks).length : Nat) : Int)) = false := by rw [hlen]; simpa using hlt
      have e : ks.all (fun k => !decide ((2147483647 : Int) < (k.size : Int))) = true := List.all_eq_true.2 fun x hx => by
        obtain ⟨i, hi⟩ := List.getElem?_of_mem hx
        rw [hall i x (by have := (List.getElem?_eq_some_iff.1 hi).1; omega) hi]; rfl
      rw [e]
      repeat' (first
    | refine run_seq ?_
    | (refine k_pick rfl ?_; first | refine k_assignD rfl rfl ?_ | refine k_bin2B rfl rfl rfl rfl ?_)
    | refine run_opsEnd ?_
    | refine run_region ?_
    | refine run_condF rfl (by first | rfl | assumption) ?_
    | refine run_exit rfl ?_
    | refine run_retOk (resOk_tmp rfl rfl ?_)
    | fail)
      all_goals exact PLe.refl _
theorem fits5_p (x : GV) : ∃ b, PCall Try.prog 15 [qV x] (.val (.bool b)) := by
  have c := fits2_p x.keys
  have hl := pdVs_len x.l
  cases h1 : decide ((2147483647 : Int) < (x.s.size : Int)) with
  | true =>
    refine ⟨false, ?_⟩
    refine pcall_of_run Try.func15 rfl Try.ntmps15 rfl (fun X => ?_)
    repeat' (first
    | refine run_seq ?_
    | (refine k_pick rfl ?_; first | refine k_assignD rfl rfl ?_ | refine k_fieldAddrB rfl rfl rfl ?_ | refine k_loadBD rfl rfl rfl (by first | rfl | (simp only [cellsD]; rfl)) ?_ | refine k_bin2B rfl rfl rfl rfl ?_ | refine k_boxW rfl rfl rfl (by first | rfl | (simp only [cellsD]; rfl)) ?_ | refine k_lenS rfl rfl (by kernel_rfl) ?_)
    | refine run_opsEnd ?_
    | refine run_region ?_
    | refine run_condT rfl (by first | rfl | assumption) ?_
    | refine run_retOk (resOk_tmp rfl rfl ?_)
    | fail)
    all_goals exact PLe.refl _
  | false =>
    cases h2 : fitS x.keys with
    | false =>
      rw [h2] at c
      refine ⟨false, ?_⟩
      refine pcall_of_run Try.func15 rfl Try.ntmps15 rfl (fun X => ?_)
      repeat' (first
    | refine run_seq ?_
    | (refine k_pick rfl ?_; first | refine k_assignD rfl rfl ?_ | refine k_fieldAddrB rfl rfl rfl ?_ | refine k_loadBD rfl rfl rfl (by first | rfl | (simp only [cellsD]; rfl)) ?_ | refine k_bin2B rfl rfl rfl rfl ?_ | refine k_boxW rfl rfl rfl (by first | rfl | (simp only [cellsD]; rfl)) ?_ | refine k_call rfl (by kernel_rfl) rfl (by first | exact c) ?_ | refine k_lenS rfl rfl (by kernel_rfl) ?_ | refine k_not rfl rfl ?_)
    | refine run_opsEnd ?_
    | refine run_region ?_
    | refine run_condT rfl (by first | rfl | assumption) ?_
    | refine run_condF rfl (by first | rfl | assumption) ?_
    | refine run_skip ?_
    | refine run_retOk (resOk_tmp rfl rfl ?_)
    | fail)
      all_goals exact PLe.refl _
    | true =>
      rw [h2] at c
      cases h3 : decide ((2147483647 : Int) < (((pdVs x.l).length : Nat) : Int)) with
      | true =>
        refine ⟨false, ?_⟩
        refine pcall_of_run Try.func15 rfl Try.ntmps15 rfl (fun X => ?_)
        repeat' (first
    | refine run_seq ?_
    | (refine k_pick rfl ?_; first | refine k_assignD rfl rfl ?_ | refine k_fieldAddrB rfl rfl rfl ?_ | refine k_loadBD rfl rfl rfl (by first | rfl | (simp only [cellsD]; rfl)) ?_ | refine k_bin2B rfl rfl rfl rfl ?_ | refine k_boxW rfl rfl rfl (by first | rfl | (simp only [cellsD]; rfl)) ?_ | refine k_call rfl (by kernel_rfl) rfl (by first | exact c) ?_ | refine k_lenS rfl rfl (by kernel_rfl) ?_ | refine k_lenD rfl rfl ?_ | refine k_not rfl rfl ?_)
    | refine run_opsEnd ?_
    | refine run_region ?_
    | refine run_condT rfl (by first | rfl | assumption) ?_
    | refine run_condF rfl (by first | rfl | assumption) ?_
    | refine run_skip ?_
    | refine run_retOk (resOk_tmp rfl rfl ?_)
    | fail)
        all_goals exact PLe.refl _
      | false =>
        refine ⟨true, ?_⟩
        refine pcall_of_run Try.func15 rfl Try.ntmps15 rfl (fun X => ?_)
        repeat' (first
    | refine run_seq ?_
    | (refine k_pick rfl ?_; first | refine k_assignD rfl rfl ?_ | refine k_fieldAddrB rfl rfl rfl ?_ | refine k_loadBD rfl rfl rfl (by first | rfl | (simp only [cellsD]; rfl)) ?_ | refine k_bin2B rfl rfl rfl rfl ?_ | refine k_boxW rfl rfl rfl (by first | rfl | (simp only [cellsD]; rfl)) ?_ | refine k_call rfl (by kernel_rfl) rfl (by first | exact c) ?_ | refine k_lenS rfl rfl (by kernel_rfl) ?_ | refine k_lenD rfl rfl ?_ | refine k_not rfl rfl ?_)
    | refine run_opsEnd ?_
    | refine run_region ?_
    | refine run_condF rfl (by first | rfl | assumption) ?_
    | refine run_skip ?_
    | refine run_retOk (resOk_tmp rfl rfl ?_)
    | fail)
        all_goals exact PLe.refl _
end Go.Proofs.Ytlghpcokbppkfaa
