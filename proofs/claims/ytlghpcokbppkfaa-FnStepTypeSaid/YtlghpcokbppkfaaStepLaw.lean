/- The law FnStepType answers true. -/
import Derived.Test.YtlghpcokbppkfaaStep
set_option linter.unusedVariables false
namespace Go.Proofs.Ytlghpcokbppkfaa
open Go.RowKit
set_option linter.unusedSimpArgs false
set_option maxRecDepth 10000
set_option maxHeartbeats 2000000

/-! ### The bounds on lengths -/
def fit2 (ks : List ByteArray) : Bool := decide (ks.length ≤ 2147483647) && ks.all fun k => decide (k.size ≤ 2147483647)
theorem fits2_p (ks : List ByteArray) : PCall Try.prog 64 [.sl 1 16 (pdS ks)] (.val (.bool (fit2 ks))) := by
  refine pcall_fits fun hfit => ?_
  have hb := (show Fits (.sl 1 16 (pdS ks)) from hfit _ (by simp)).sl
  rw [pdS_len] at hb
  have hb1 := hb.1
  clear hb
  have hlen := pdS_len ks
  refine pcall_of_run Try.func64 rfl Try.ntmps64 rfl (fun X => ?_)
  by_cases h0 : (2147483647 : Int) < ((pdS ks).length : Nat)
  · have e0 : decide ((2147483647 : Int) < ((pdS ks).length : Nat)) = true := by simpa using h0
    repeat' (first
    | refine run_seq ?_
    | (refine k_pick rfl ?_; first | refine k_assignD rfl rfl ?_ | refine k_moveD rfl rfl ?_ | refine k_bin2B rfl rfl rfl rfl ?_ | refine k_lenD rfl rfl ?_)
    | refine run_opsEnd ?_
    | refine run_region ?_
    | refine run_condT rfl (by first | rfl | assumption) ?_
    | refine run_retOk (resOk_tmp rfl rfl ?_)
    | fail)
    all_goals exact PLe.of_eq (by rw [show fit2 ks = false by simp [fit2]; intro h; omega])
  have e0 : decide ((2147483647 : Int) < ((pdS ks).length : Nat)) = false := by simpa using h0
  repeat' (first
    | refine run_seq ?_
    | (refine k_pick rfl ?_; first | refine k_assignD rfl rfl ?_ | refine k_moveD rfl rfl ?_ | refine k_bin2B rfl rfl rfl rfl ?_ | refine k_lenD rfl rfl ?_)
    | refine run_opsEnd ?_
    | refine run_region ?_
    | refine run_condF rfl (by first | rfl | assumption) ?_
    | refine run_block ?_
    | refine run_skip ?_
    | fail)
  refine run_loopS (ι := { k : Nat // k ≤ ks.length ∧ ((ks.take k).all fun k => decide (k.size ≤ 2147483647)) = true })
    (fun k => [(8, .dat (.sl 1 16 (pdS ks))), (9, .dat (.val (.int .i64 ((pdS ks).length : Nat)))), (10, .dat (.val (.int .i64 (k.1 : Nat))))])
    (fun k => []) (fun k => ks.length - k.1) ⟨0, Nat.zero_le _, by simp⟩ id ?_ ?_
  · (refine ⟨?_, ?_, by rfl⟩ <;> repeat' (first | exact trivial | exact ALe.ptr rfl | exact ALe.own rfl | exact BLe.boxD _ _ | exact BLe.row rfl | exact ALe.dat (PLe.refl _) | exact CLe.nil | refine And.intro ?_ ?_ | refine CLe.cons ?_ ?_ | refine BLe.box ?_ | refine BLe.row ?_ | refine ALe.dat (PLe.of_eq ?_)))
  · rintro ⟨k, hk, hn⟩
    by_cases hlt : k < ks.length
    · have hc : decide ((k : Int) < (((pdS ks).length : Nat) : Int)) = true := by rw [hlen]; simpa using hlt
      obtain ⟨f, hf⟩ : ∃ f, ks[k]? = some f := ⟨ks[k], by simp [hlt]⟩
      have hi : (pdS ks)[((k : Nat) : Int).toNat]? = some (.val (.string f)) := pdS_at hf
      repeat' (first
    | refine run_seq ?_
    | (refine k_pick rfl ?_; first | refine k_indexAddrD rfl rfl rfl (by first | omega | (dsimp only; omega)) (by assumption) ?_ | refine k_assignD rfl rfl ?_ | refine k_moveD rfl rfl ?_ | refine k_bin2B rfl rfl rfl rfl ?_ | refine k_lenS rfl rfl (by kernel_rfl) ?_ | refine k_ariI rfl rfl rfl rfl (by first | omega | (dsimp only; omega)) ?_ | refine k_loadD rfl rfl (by first | rfl | (simp only [cellsD]; rfl)) ?_)
    | refine run_opsEnd ?_
    | refine run_region ?_
    | refine run_condT rfl (by first | rfl | assumption) ?_
    | refine run_cond rfl (fun h => ?_) (fun h => ?_)
    | refine run_block ?_
    | refine run_blkEnd ?_
    | refine run_skip ?_
    | refine run_retOk (resOk_tmp rfl rfl ?_)
    | fail)
      · have e := all_not (p := fun k : ByteArray => decide (k.size ≤ 2147483647)) hf (by simp at h ⊢; omega)
        exact PLe.of_eq (by rw [show fit2 ks = false by simp only [fit2, e, Bool.and_false]])
      · refine run_again ?_
        refine ⟨⟨k + 1, by omega, all_take (p := fun k : ByteArray => decide (k.size ≤ 2147483647)) hn hf (by simp at h ⊢; omega)⟩, id, by simp only; omega, ?_⟩
        (refine ⟨?_, ?_, by rfl⟩ <;> repeat' (first | exact trivial | exact ALe.ptr rfl | exact ALe.own rfl | exact BLe.boxD _ _ | exact BLe.row rfl | exact ALe.dat (PLe.refl _) | exact CLe.nil | refine And.intro ?_ ?_ | refine CLe.cons ?_ ?_ | refine BLe.box ?_ | refine BLe.row ?_ | refine ALe.dat (PLe.of_eq ?_)))
    · have hc : decide ((k : Int) < (((pdS ks).length : Nat) : Int)) = false := by rw [hlen]; simpa using hlt
      have e : (ks.all fun k => decide (k.size ≤ 2147483647)) = true := by rwa [List.take_of_length_le (by omega)] at hn
      repeat' (first
    | refine run_seq ?_
    | (refine k_pick rfl ?_; first | refine k_assignD rfl rfl ?_ | refine k_bin2B rfl rfl rfl rfl ?_)
    | refine run_opsEnd ?_
    | refine run_region ?_
    | refine run_condF rfl (by first | rfl | assumption) ?_
    | refine run_exit rfl ?_
    | refine run_retOk (resOk_tmp rfl rfl ?_)
    | fail)
      all_goals exact PLe.of_eq (by rw [show fit2 ks = true by simp only [fit2, e, Bool.and_true]; simp; omega])
theorem fits13_p (x : EV) : ∃ b, PCall Try.prog 18 [pdE x] (.val (.bool b)) := by
  have c := fits2_p x.keys
  by_cases h1 : (2147483647 : Int) < (x.s.size : Nat)
  · refine ⟨false, ?_⟩
    have e1 : decide ((2147483647 : Int) < (x.s.size : Nat)) = true := by simpa using h1
    refine pcall_of_run Try.func18 rfl Try.ntmps18 rfl (fun X => ?_)
    repeat' (first
    | refine run_seq ?_
    | (refine k_pick rfl ?_; first | refine k_assignD rfl rfl ?_ | refine k_fieldAddrB rfl rfl rfl ?_ | refine k_loadBD rfl rfl rfl (by first | rfl | (simp only [pdE, cellsD]; rfl)) ?_ | refine k_bin2B rfl rfl rfl rfl ?_ | refine k_boxW rfl rfl rfl (by first | rfl | (simp only [pdE, cellsD]; rfl)) ?_ | refine k_lenS rfl rfl (by kernel_rfl) ?_)
    | refine run_opsEnd ?_
    | refine run_region ?_
    | refine run_condT rfl (by first | rfl | assumption) ?_
    | refine run_retOk (resOk_tmp rfl rfl ?_)
    | fail)
    all_goals exact PLe.refl _
  · have e1 : decide ((2147483647 : Int) < (x.s.size : Nat)) = false := by simpa using h1
    cases hf : fit2 x.keys
    · refine ⟨false, ?_⟩
      rw [hf] at c
      refine pcall_of_run Try.func18 rfl Try.ntmps18 rfl (fun X => ?_)
      repeat' (first
    | refine run_seq ?_
    | (refine k_pick rfl ?_; first | refine k_assignD rfl rfl ?_ | refine k_fieldAddrB rfl rfl rfl ?_ | refine k_loadBD rfl rfl rfl (by first | rfl | (simp only [pdE, cellsD]; rfl)) ?_ | refine k_bin2B rfl rfl rfl rfl ?_ | refine k_boxW rfl rfl rfl (by first | rfl | (simp only [pdE, cellsD]; rfl)) ?_ | refine k_call rfl (by kernel_rfl) rfl (by first | exact c | (simp only [← pdE]; exact c)) ?_ | refine k_lenS rfl rfl (by kernel_rfl) ?_ | refine k_not rfl rfl ?_)
    | refine run_opsEnd ?_
    | refine run_region ?_
    | refine run_condT rfl (by first | rfl | assumption) ?_
    | refine run_condF rfl (by first | rfl | assumption) ?_
    | refine run_skip ?_
    | refine run_retOk (resOk_tmp rfl rfl ?_)
    | fail)
      all_goals exact PLe.refl _
    · rw [hf] at c
      by_cases h2 : (2147483647 : Int) < ((pdVs x.l).length : Nat)
      · refine ⟨false, ?_⟩
        have e2 : decide ((2147483647 : Int) < ((pdVs x.l).length : Nat)) = true := by simpa using h2
        refine pcall_of_run Try.func18 rfl Try.ntmps18 rfl (fun X => ?_)
        repeat' (first
    | refine run_seq ?_
    | (refine k_pick rfl ?_; first | refine k_assignD rfl rfl ?_ | refine k_fieldAddrB rfl rfl rfl ?_ | refine k_loadBD rfl rfl rfl (by first | rfl | (simp only [pdE, cellsD]; rfl)) ?_ | refine k_bin2B rfl rfl rfl rfl ?_ | refine k_boxW rfl rfl rfl (by first | rfl | (simp only [pdE, cellsD]; rfl)) ?_ | refine k_call rfl (by kernel_rfl) rfl (by first | exact c | (simp only [← pdE]; exact c)) ?_ | refine k_lenS rfl rfl (by kernel_rfl) ?_ | refine k_lenD rfl rfl ?_ | refine k_not rfl rfl ?_)
    | refine run_opsEnd ?_
    | refine run_region ?_
    | refine run_condT rfl (by first | rfl | assumption) ?_
    | refine run_condF rfl (by first | rfl | assumption) ?_
    | refine run_skip ?_
    | refine run_retOk (resOk_tmp rfl rfl ?_)
    | fail)
        all_goals exact PLe.refl _
      · refine ⟨true, ?_⟩
        have e2 : decide ((2147483647 : Int) < ((pdVs x.l).length : Nat)) = false := by simpa using h2
        refine pcall_of_run Try.func18 rfl Try.ntmps18 rfl (fun X => ?_)
        repeat' (first
    | refine run_seq ?_
    | (refine k_pick rfl ?_; first | refine k_assignD rfl rfl ?_ | refine k_fieldAddrB rfl rfl rfl ?_ | refine k_loadBD rfl rfl rfl (by first | rfl | (simp only [pdE, cellsD]; rfl)) ?_ | refine k_bin2B rfl rfl rfl rfl ?_ | refine k_boxW rfl rfl rfl (by first | rfl | (simp only [pdE, cellsD]; rfl)) ?_ | refine k_call rfl (by kernel_rfl) rfl (by first | exact c | (simp only [← pdE]; exact c)) ?_ | refine k_lenS rfl rfl (by kernel_rfl) ?_ | refine k_lenD rfl rfl ?_ | refine k_not rfl rfl ?_)
    | refine run_opsEnd ?_
    | refine run_region ?_
    | refine run_condF rfl (by first | rfl | assumption) ?_
    | refine run_skip ?_
    | refine run_retOk (resOk_tmp rfl rfl ?_)
    | fail)
        all_goals exact PLe.refl _

/-! ### laws.tStep -/
theorem cleanE_kind (e : EV) : (cleanE e).kind = if e.kind = 1 then 1 else if e.kind = 2 then 2 else if e.kind = 3 then 3 else 0 := by
  unfold cleanE
  by_cases h1 : e.kind = 1
  · simp [h1]
  by_cases h2 : e.kind = 2
  · simp [h1, h2]
  by_cases h3 : e.kind = 3
  · simp [h1, h2, h3]
  simp [h1, h2, h3]
theorem lastF_take {l : List TF} {nm : ByteArray} {k : Nat} {f : TF} (h : l[k]? = some f) : lastF (l.take (k + 1)) nm = if f.name = nm then some f else lastF (l.take k) nm := by
  rw [List.take_add_one, h]
  show lastF (l.take k ++ [f]) nm = _
  rw [lastF_append]
  show ((match lastF [] nm with | some f => some f | none => if f.name = nm then some f else none).or _) = _
  by_cases e : f.name = nm <;> simp [lastF, e]
theorem tStep_p (m : TM) (e : EV) : PCall Try.prog 31 [qM m, pdE e] (qR (stepR m (toPE e))) := by
  refine pcall_fits fun hfit => ?_
  have hb1 := (fits_M (show Fits (pdM m) from by rw [pdM_eq]; exact hfit (qM m) (by simp))).2.1
  have hlen := pdFs_len m.fields
  have cC := cleanE_p e
  have hk := cleanE_kind e
  refine pcall_of_run Try.func31 rfl Try.ntmps31 rfl (fun X => ?_)
  by_cases h : (cleanE e).kind = 0
  · have h0 : decide ((cleanE e).kind = 0) = true := by simpa using h
    have ep : toPE e = .name e.s := by
      rw [h] at hk
      unfold toPE
      by_cases h1 : e.kind = 1
      · simp [h1] at hk
      by_cases h2 : e.kind = 2
      · simp [h1, h2] at hk
      by_cases h3 : e.kind = 3
      · simp [h1, h2, h3] at hk
      simp [h1, h2, h3]
    repeat' (first
    | refine run_seq ?_
    | (refine k_pick rfl ?_; first | refine k_moveD rfl rfl ?_ | refine k_fieldAddrB rfl rfl rfl ?_ | refine k_loadW rfl rfl rfl (by first | rfl | (simp only [pdE, cellsD]; rfl)) ?_ | refine k_loadBD rfl rfl rfl (by first | rfl | (simp only [pdE, cellsD]; rfl)) ?_ | refine k_bin2B rfl rfl rfl rfl ?_ | refine k_boxW rfl rfl rfl (by first | rfl | (simp only [pdE, cellsD]; rfl)) ?_ | refine k_call rfl (by kernel_rfl) rfl (by first | exact cC | (simp only [← pdE]; exact cC)) ?_ | refine k_lenD rfl rfl ?_ | refine k_storeB rfl rfl rfl rfl rfl ?_ | refine k_fieldD rfl rfl (by first | rfl | exact pdE _) (by first | rfl | (simp only [pdE, cellsD]; rfl)) ?_ | refine k_alloc rfl rfl ?_)
    | refine run_opsEnd ?_
    | refine run_region ?_
    | refine run_condT rfl (by first | rfl | assumption) ?_
    | refine run_block ?_
    | fail)
    refine run_loopS (ι := { k : Nat // k ≤ m.fields.length })
      (fun k => [(3, .ptr 3 0), (4, .ptr 4 0), (5, .ptr 5 0), (15, .dat (.sl 8 144 (pdFs m.fields))), (16, .dat (.val (.int .i64 ((pdFs m.fields).length : Nat)))), (17, .dat (.val (.int .i64 (k.1 : Nat))))])
      (fun k => [(3, .box 33 (cellsD (pdE e))), (4, .box 43 ([.val (.bool false), .val (.string ⟨#[]⟩), .val (.string ⟨#[]⟩), .val (.slice none 0 0), .val (.slice none 0 0), .val (.string ⟨#[]⟩)].map .dat)), (5, .box 43 (cellsD (qR (((lastF (m.fields.take k.1) e.s).map TF.type).getD m.elem))))])
      (fun k => m.fields.length - k.1) ⟨0, Nat.zero_le _⟩ id ?_ ?_
    · (refine ⟨?_, ?_, by rfl⟩ <;> repeat' (first | exact trivial | exact ALe.ptr rfl | exact ALe.own rfl | exact BLe.boxD _ _ | exact BLe.row rfl | exact ALe.dat (PLe.refl _) | exact CLe.nil | refine And.intro ?_ ?_ | refine CLe.cons ?_ ?_ | refine BLe.box ?_ | refine BLe.row ?_ | refine ALe.dat (PLe.of_eq ?_)))
    · rintro ⟨k, hk⟩
      by_cases hlt : k < m.fields.length
      · have hc : decide ((k : Int) < (((pdFs m.fields).length : Nat) : Int)) = true := by rw [hlen]; simpa using hlt
        obtain ⟨f, hf⟩ : ∃ f, m.fields[k]? = some f := ⟨m.fields[k], by simp [hlt]⟩
        have hi : (pdFs m.fields)[((k : Nat) : Int).toNat]? = some (pdF f) := pdFs_at hf
        have hl := lastF_take (nm := e.s) hf
        by_cases hn : f.name = e.s
        · have hn' : decide (f.name = e.s) = true := by simpa using hn
          rw [if_pos hn] at hl
          repeat' (first
    | refine run_seq ?_
    | (refine k_pick rfl ?_; first | refine k_indexAddrD rfl rfl rfl (by first | omega | (dsimp only; omega)) (by assumption) ?_ | refine k_moveD rfl rfl ?_ | refine k_fieldAddrB rfl rfl rfl ?_ | refine k_loadBD rfl rfl rfl (by first | rfl | (simp only [pdF_eq, pdE, cellsD]; rfl)) ?_ | refine k_bin2B rfl rfl rfl rfl ?_ | refine k_storeB rfl rfl rfl rfl rfl ?_ | refine k_storeW rfl rfl rfl (by first | rfl | (simp only [pdF_eq, pdE, cellsD]; rfl)) (by first | rfl | (simp only [pdF_eq, pdE, cellsD]; rfl)) rfl ?_ | refine k_ariI rfl rfl rfl rfl (by first | omega | (dsimp only; omega)) ?_ | refine k_loadD rfl rfl (by first | rfl | (simp only [pdF_eq, pdE, cellsD]; rfl)) ?_ | refine k_alloc rfl rfl ?_)
    | refine run_opsEnd ?_
    | refine run_region ?_
    | refine run_condT rfl (by first | rfl | assumption) ?_
    | refine run_block ?_
    | refine run_blkEnd ?_
    | refine run_skip ?_
    | fail)
          refine run_again ?_
          refine ⟨⟨k + 1, by omega⟩, id, by simp only; omega, ?_⟩
          simp only [hl, Option.map_some, Option.getD_some]
          (refine ⟨?_, ?_, by rfl⟩ <;> repeat' (first | exact trivial | exact ALe.ptr rfl | exact ALe.own rfl | exact BLe.boxD _ _ | exact BLe.row rfl | exact ALe.dat (PLe.refl _) | exact CLe.nil | refine And.intro ?_ ?_ | refine CLe.cons ?_ ?_ | refine BLe.box ?_ | refine BLe.row ?_ | refine ALe.dat (PLe.of_eq ?_)))
          all_goals trace_state
        · have hn' : decide (f.name = e.s) = false := by simpa using hn
          rw [if_neg hn] at hl
          repeat' (first
    | refine run_seq ?_
    | (refine k_pick rfl ?_; first | refine k_indexAddrD rfl rfl rfl (by first | omega | (dsimp only; omega)) (by assumption) ?_ | refine k_moveD rfl rfl ?_ | refine k_fieldAddrB rfl rfl rfl ?_ | refine k_loadBD rfl rfl rfl (by first | rfl | (simp only [pdF_eq, pdE, cellsD]; rfl)) ?_ | refine k_bin2B rfl rfl rfl rfl ?_ | refine k_storeW rfl rfl rfl (by first | rfl | (simp only [pdF_eq, pdE, cellsD]; rfl)) (by first | rfl | (simp only [pdF_eq, pdE, cellsD]; rfl)) rfl ?_ | refine k_ariI rfl rfl rfl rfl (by first | omega | (dsimp only; omega)) ?_ | refine k_loadD rfl rfl (by first | rfl | (simp only [pdF_eq, pdE, cellsD]; rfl)) ?_ | refine k_alloc rfl rfl ?_)
    | refine run_opsEnd ?_
    | refine run_region ?_
    | refine run_condT rfl (by first | rfl | assumption) ?_
    | refine run_condF rfl (by first | rfl | assumption) ?_
    | refine run_block ?_
    | refine run_blkEnd ?_
    | refine run_skip ?_
    | fail)
          refine run_again ?_
          refine ⟨⟨k + 1, by omega⟩, id, by simp only; omega, ?_⟩
          simp only [hl]
          (refine ⟨?_, ?_, by rfl⟩ <;> repeat' (first | exact trivial | exact ALe.ptr rfl | exact ALe.own rfl | exact BLe.boxD _ _ | exact BLe.row rfl | exact ALe.dat (PLe.refl _) | exact CLe.nil | refine And.intro ?_ ?_ | refine CLe.cons ?_ ?_ | refine BLe.box ?_ | refine BLe.row ?_ | refine ALe.dat (PLe.of_eq ?_)))
          all_goals trace_state
      · have hc : decide ((k : Int) < (((pdFs m.fields).length : Nat) : Int)) = false := by rw [hlen]; simpa using hlt
        have e0 : stepR m (toPE e) = ((lastF (m.fields.take k) e.s).map TF.type).getD m.elem := by rw [ep, List.take_of_length_le (by omega)]; rfl
        rw [e0]
        generalize ((lastF (m.fields.take k) e.s).map TF.type).getD m.elem = r
        repeat' (first
    | refine run_seq ?_
    | (refine k_pick rfl ?_; first | refine k_loadW rfl rfl rfl (by first | rfl | (simp only [cellsD]; rfl)) ?_ | refine k_bin2B rfl rfl rfl rfl ?_ | refine k_storeB rfl rfl rfl rfl rfl ?_)
    | refine run_opsEnd ?_
    | refine run_region ?_
    | refine run_condF rfl (by first | rfl | assumption) ?_
    | refine run_exit rfl ?_
    | refine run_retOk (resOk_cell rfl rfl rfl (by first | rfl | (simp only [cellsD]; rfl)) ?_)
    | fail)
        all_goals exact PLe.of_eq rfl
  · have h0 : decide ((cleanE e).kind = 0) = false := by simpa using h
    have ep : stepR m (toPE e) = m.elem := by
      unfold toPE
      by_cases h1 : e.kind = 1
      · simp [h1, stepR]
      by_cases h2 : e.kind = 2
      · simp [h1, h2, stepR]
      by_cases h3 : e.kind = 3
      · simp [h1, h2, h3, stepR]
      simp [h1, h2, h3] at hk
      exact absurd hk h
    rw [ep]
    repeat' (first
    | refine run_seq ?_
    | (refine k_pick rfl ?_; first | refine k_fieldAddrB rfl rfl rfl ?_ | refine k_loadW rfl rfl rfl (by first | rfl | (simp only [pdE, cellsD]; rfl)) ?_ | refine k_loadBD rfl rfl rfl (by first | rfl | (simp only [pdE, cellsD]; rfl)) ?_ | refine k_bin2B rfl rfl rfl rfl ?_ | refine k_boxW rfl rfl rfl (by first | rfl | (simp only [pdE, cellsD]; rfl)) ?_ | refine k_call rfl (by kernel_rfl) rfl (by first | exact cC | (simp only [← pdE]; exact cC)) ?_ | refine k_storeB rfl rfl rfl rfl rfl ?_ | refine k_fieldD rfl rfl (by first | rfl | exact pdE _) (by first | rfl | (simp only [pdE, cellsD]; rfl)) ?_ | refine k_alloc rfl rfl ?_)
    | refine run_opsEnd ?_
    | refine run_region ?_
    | refine run_condF rfl (by first | rfl | assumption) ?_
    | refine run_skip ?_
    | refine run_retOk (resOk_cell rfl rfl rfl (by first | rfl | (simp only [pdE, cellsD]; rfl)) ?_)
    | fail)
    all_goals exact PLe.of_eq rfl
end Go.Proofs.Ytlghpcokbppkfaa
