import Derived.Test.YtlghpcokbppkfaaWfC
import Derived.Test.YtlghpcokbppkfaaWfA
import Derived.Test.YtlghpcokbppkfaaResLaw
/- The reference's words on types: WellFormed, OrderlyKeys; the laws' tFormed, tList, zzFits9; errors.New. -/
set_option linter.unusedVariables false
namespace Go.Proofs.Ytlghpcokbppkfaa
open Go.RowKit
set_option linter.unusedSimpArgs false
set_option maxRecDepth 10000
set_option maxHeartbeats 4000000

theorem pcall_arg3 {P : Program} {f : FuncId} {a b d d' r : PD} (h : PCall P f [a, b, d'] r) (hle : PLe d d') : PCall P f [a, b, d] r := by
  intro w F vs hF hv
  refine h w F vs hF ?_
  simp only [Reps] at hv ⊢
  obtain ⟨v1, r1, e1, h1, v2, r2, e2, h2, v3, r3, e3, h3, h4⟩ := hv
  exact ⟨v1, r1, e1, h1, v2, r2, e2, h2, v3, r3, e3, hle _ _ _ h3, h4⟩
def zV : PD := .agg [.val (.int .i64 0), .val (.int .i64 0), .val (.float .f64 0), .val (.string ⟨#[]⟩), .val (.slice none 0 0), .val (.slice none 0 0)]
def zGV : GV := .mk 0 0 0 ⟨#[]⟩ [] []
theorem zV_le : PLe zV (qV zGV) := by
  refine PLe.aggs ⟨PLe.refl _, PLe.refl _, PLe.refl _, PLe.refl _, ?_, ?_, trivial⟩
  · show PLe _ (.sl 1 16 (pdS [])); exact PLe.nil _ _
  · show PLe _ (.sl 6 88 (pdVs [])); simp only [pdVs]; exact PLe.nil _ _
theorem ordly_p (x : GV) : PCall Try.prog 46 [qV x] (.val (.bool (ordV x))) := by
  have := pcall_V1s (P := Try.prog) (f := 46) (x := x) (u := .bool (ordV x)) trivial (fun w v hv => (ord_any x).use w v hv)
  rw [pdV_eq] at this
  exact this

/-! ### Loops over the types of a schema -/
theorem fits_TDs {S : List TD} (h : Fits (pdSch S)) : S.length * 80 ≤ 140737488351232 := (fits_TD h).1
def orS (S : List TD) (r : TR) (x : GV) : Bool := (S.all fun d => orA d.2) && (orA r.atom && ordV x)
theorem orderlyKeys_p (S : List TD) (r : TR) (x : GV) : PCall Try.prog 86 [pdSch S, qR r, qV x] (.val (.bool (orS S r x))) := by
  refine pcall_fits fun hfit => ?_
  have hb1 := fits_TDs (show Fits (pdSch S) from hfit _ (by simp))
  have hlen : (S.map pdTD).length = S.length := by simp
  have c1 := orA_c r.atom
  have c2 := ordly_p x
  refine pcall_of_run Try.func86 rfl Try.ntmps86 rfl (fun X => ?_)
  repeat' (first
    | refine run_seq ?_
    | (refine k_pick rfl ?_; first | refine k_assignD rfl rfl ?_ | refine k_moveD rfl rfl ?_ | refine k_fieldAddrB rfl rfl rfl ?_ | refine k_loadBD rfl rfl rfl (by first | rfl | (simp only [pdSch, cellsD]; rfl)) ?_ | refine k_boxW rfl rfl rfl (by first | rfl | (simp only [pdSch, cellsD]; rfl)) ?_ | refine k_lenD rfl rfl ?_)
    | refine run_opsEnd ?_
    | refine run_region ?_
    | refine run_block ?_
    | fail)
  refine run_loopS (ι := { k : Nat // k ≤ S.length ∧ ∀ g ∈ S.take k, orA g.2 = true })
    (fun k => [(4, .ptr 4 0), (5, .ptr 5 0), (10, .dat (.sl 4 80 (S.map pdTD))), (11, .dat (.val (.int .i64 ((S.map pdTD).length : Nat)))), (12, .dat (.val (.int .i64 (k.1 : Nat))))])
    (fun k => [(4, .box 43 (cellsD (qR r))), (5, .box 26 (cellsD (qV x)))]) (fun k => S.length - k.1) ⟨0, Nat.zero_le _, by simp⟩ id ?_ ?_
  · (refine ⟨?_, ?_, by rfl⟩ <;> repeat' (first | exact trivial | exact ALe.ptr rfl | exact ALe.own rfl | exact ALe.elt rfl | exact BLe.boxD _ _ | exact BLe.row rfl | exact BLe.res | exact ALe.dat (PLe.refl _) | exact CLe.nil | refine And.intro ?_ ?_ | refine ALe.iface ?_ | refine ALe.clo ?_ | refine CLe.cons ?_ ?_ | refine BLe.box ?_ | refine BLe.row ?_ | refine ALe.dat (PLe.of_eq ?_)))
  rintro ⟨k, hk, hall⟩
  unfold orS
  by_cases hlt : k < S.length
  · have hc : decide ((k : Int) < (((S.map pdTD).length : Nat) : Int)) = true := by rw [hlen]; simpa using hlt
    obtain ⟨f, hf⟩ : ∃ f, S[k]? = some f := ⟨S[k], by simp [hlt]⟩
    have hi : (S.map pdTD)[((k : Nat) : Int).toNat]? = some (pdTD f) := by simp [hf]
    have cA := orA_c f.2
    cases hw : orA f.2 <;> rw [hw] at cA
    · have e := all_not (p := fun d : TD => orA d.2) hf hw
      rw [e]
      repeat' (first
    | refine run_seq ?_
    | (refine k_pick rfl ?_; first | refine k_indexAddrD rfl rfl rfl (by first | omega | (dsimp only; omega)) (by assumption) ?_ | refine k_assignD rfl rfl ?_ | refine k_fieldAddrB rfl rfl rfl ?_ | refine k_loadBD rfl rfl rfl (by first | rfl | (simp only [pdTD_eq, cellsD]; rfl)) ?_ | refine k_bin2B rfl rfl rfl rfl ?_ | refine k_call rfl (by kernel_rfl) rfl (by first | exact cA | (simp only [← pdTD_eq]; exact cA)) ?_ | refine k_not rfl rfl ?_ | refine k_storeB rfl rfl rfl rfl rfl ?_ | refine k_loadD rfl rfl (by first | rfl | (simp only [pdTD_eq, cellsD]; rfl)) ?_ | refine k_alloc rfl rfl ?_)
    | refine run_opsEnd ?_
    | refine run_region ?_
    | refine run_condT rfl (by first | rfl | assumption) ?_
    | refine run_block ?_
    | refine run_skip ?_
    | refine run_retOk (resOk_tmp rfl rfl ?_)
    | fail)
      all_goals exact PLe.refl _
    · repeat' (first
    | refine run_seq ?_
    | (refine k_pick rfl ?_; first | refine k_indexAddrD rfl rfl rfl (by first | omega | (dsimp only; omega)) (by assumption) ?_ | refine k_moveD rfl rfl ?_ | refine k_fieldAddrB rfl rfl rfl ?_ | refine k_loadBD rfl rfl rfl (by first | rfl | (simp only [pdTD_eq, cellsD]; rfl)) ?_ | refine k_bin2B rfl rfl rfl rfl ?_ | refine k_call rfl (by kernel_rfl) rfl (by first | exact cA | (simp only [← pdTD_eq]; exact cA)) ?_ | refine k_not rfl rfl ?_ | refine k_storeB rfl rfl rfl rfl rfl ?_ | refine k_ariI rfl rfl rfl rfl (by first | omega | (dsimp only; omega)) ?_ | refine k_loadD rfl rfl (by first | rfl | (simp only [pdTD_eq, cellsD]; rfl)) ?_ | refine k_alloc rfl rfl ?_)
    | refine run_opsEnd ?_
    | refine run_region ?_
    | refine run_condT rfl (by first | rfl | assumption) ?_
    | refine run_condF rfl (by first | rfl | assumption) ?_
    | refine run_block ?_
    | refine run_blkEnd ?_
    | refine run_skip ?_
    | fail)
      refine run_again ?_
      refine ⟨⟨k + 1, by omega, mem_more (p := fun d : TD => orA d.2 = true) hf hall hw⟩, id, by simp only; omega, ?_⟩
      (refine ⟨?_, ?_, by rfl⟩ <;> repeat' (first | exact trivial | exact ALe.ptr rfl | exact ALe.own rfl | exact ALe.elt rfl | exact BLe.boxD _ _ | exact BLe.row rfl | exact BLe.res | exact ALe.dat (PLe.refl _) | exact CLe.nil | refine And.intro ?_ ?_ | refine ALe.iface ?_ | refine ALe.clo ?_ | refine CLe.cons ?_ ?_ | refine BLe.box ?_ | refine BLe.row ?_ | refine ALe.dat (PLe.of_eq ?_)))
  · have hc : decide ((k : Int) < (((S.map pdTD).length : Nat) : Int)) = false := by rw [hlen]; simpa using hlt
    have hkk : S.take k = S := List.take_of_length_le (by omega)
    rw [hkk] at hall
    have e : (S.all fun d => orA d.2) = true := List.all_eq_true.2 hall
    rw [e, Bool.true_and]
    cases hw : orA r.atom <;> rw [hw] at c1
    · repeat' (first
    | refine run_seq ?_
    | (refine k_pick rfl ?_; first | refine k_assignD rfl rfl ?_ | refine k_moveD rfl rfl ?_ | refine k_fieldAddrB rfl rfl rfl ?_ | refine k_loadBD rfl rfl rfl (by first | rfl | (simp only [cellsD]; rfl)) ?_ | refine k_bin2B rfl rfl rfl rfl ?_ | refine k_pickF rfl rfl (by first | rfl | assumption) rfl ?_ | refine k_call rfl (by kernel_rfl) rfl (by first | exact c1) ?_)
    | refine run_opsEnd ?_
    | refine run_region ?_
    | refine run_condF rfl (by first | rfl | assumption) ?_
    | refine k_guardNT rfl rfl (by first | rfl | assumption) rfl ?_
    | refine run_exit rfl ?_
    | refine run_retOk (resOk_tmp rfl rfl ?_)
    | fail)
      all_goals exact PLe.refl _
    · repeat' (first
    | refine run_seq ?_
    | (refine k_pick rfl ?_; first | refine k_assignD rfl rfl ?_ | refine k_moveD rfl rfl ?_ | refine k_fieldAddrB rfl rfl rfl ?_ | refine k_loadBD rfl rfl rfl (by first | rfl | (simp only [cellsD]; rfl)) ?_ | refine k_bin2B rfl rfl rfl rfl ?_ | refine k_pickT rfl rfl (by first | rfl | assumption) rfl ?_ | refine k_call rfl (by kernel_rfl) rfl (by first | exact c1 | exact c2) ?_)
    | refine run_opsEnd ?_
    | refine run_region ?_
    | refine run_condF rfl (by first | rfl | assumption) ?_
    | (refine k_guardY rfl rfl (by first | rfl | assumption) ?_; first | refine k_loadW rfl rfl rfl (by first | rfl | (simp only [cellsD]; rfl)) ?_ | refine k_call rfl (by kernel_rfl) rfl (by first | exact c1 | exact c2) ?_)
    | refine run_exit rfl ?_
    | refine run_retOk (resOk_tmp rfl rfl ?_)
    | fail)
      all_goals exact PLe.refl _
def wfS (S : List TD) (r : TR) : Bool := (decide (S.map (·.1)).Nodup && S.all fun d => wfA S d.2) && wfR S r
theorem wellFormed_p (S : List TD) (r : TR) : PCall Try.prog 85 [pdSch S, qR r] (.val (.bool (wfS S r))) := by
  refine pcall_fits fun hfit => ?_
  have hb1 := fits_TDs (show Fits (pdSch S) from hfit _ (by simp))
  have hlen : (S.map pdTD).length = S.length := by simp
  have c1 := wfR_c S r
  refine pcall_of_run Try.func85 rfl Try.ntmps85 rfl (fun X => ?_)
  repeat' (first
    | refine run_seq ?_
    | (refine k_pick rfl ?_; first | refine k_assignD rfl rfl ?_ | refine k_moveD rfl rfl ?_ | refine k_fieldAddrB rfl rfl rfl ?_ | refine k_loadBD rfl rfl rfl (by first | rfl | (simp only [pdSch, cellsD]; rfl)) ?_ | refine k_boxW rfl rfl rfl (by first | rfl | (simp only [pdSch, cellsD]; rfl)) ?_ | refine k_lenD rfl rfl ?_)
    | refine run_opsEnd ?_
    | refine run_region ?_
    | refine run_block ?_
    | fail)
  refine run_loopS (ι := { k : Nat // k ≤ S.length ∧ ((S.take k).map (·.1)).Nodup ∧ ∀ g ∈ S.take k, wfA S g.2 = true })
    (fun k => [(2, .ptr 2 0), (3, .ptr 3 0), (10, .dat (.sl 4 80 (S.map pdTD))), (11, .dat (.val (.int .i64 ((S.map pdTD).length : Nat)))), (12, .dat (.val (.int .i64 (k.1 : Nat))))])
    (fun k => [(2, .box 61 (cellsD (pdSch S))), (3, .box 43 (cellsD (qR r)))]) (fun k => S.length - k.1) ⟨0, Nat.zero_le _, by simp, by simp⟩ id ?_ ?_
  · (refine ⟨?_, ?_, by rfl⟩ <;> repeat' (first | exact trivial | exact ALe.ptr rfl | exact ALe.own rfl | exact ALe.elt rfl | exact BLe.boxD _ _ | exact BLe.row rfl | exact BLe.res | exact ALe.dat (PLe.refl _) | exact CLe.nil | refine And.intro ?_ ?_ | refine ALe.iface ?_ | refine ALe.clo ?_ | refine CLe.cons ?_ ?_ | refine BLe.box ?_ | refine BLe.row ?_ | refine ALe.dat (PLe.of_eq ?_)))
  rintro ⟨k, hkl, hnd, hall⟩
  unfold wfS
  by_cases hlt : k < S.length
  · have hc : decide ((k : Int) < (((S.map pdTD).length : Nat) : Int)) = true := by rw [hlen]; simpa using hlt
    obtain ⟨x, hx⟩ : ∃ f, S[k]? = some f := ⟨S[k], by simp [hlt]⟩
    have hi : (S.map pdTD)[((k : Nat) : Int).toNat]? = some (pdTD x) := by simp [hx]
    have hle : k ≤ (S.map pdTD).length := by omega
    have hlt2 : (((S.map pdTD).take k).drop 0).length = k := by simp; omega
    repeat' (first
    | refine run_seq ?_
    | (refine k_pick rfl ?_; first | refine k_indexAddrD rfl rfl rfl (by first | omega | (dsimp only; omega)) (by assumption) ?_ | refine k_sliceD (a := 0) (b := k) rfl rfl rfl rfl (Nat.zero_le _) hle ?_ | refine k_assignD rfl rfl ?_ | refine k_moveD rfl rfl ?_ | refine k_fieldAddrB rfl rfl rfl ?_ | refine k_loadBD rfl rfl rfl (by first | rfl | (simp only [pdTD_eq, pdSch, cellsD]; rfl)) ?_ | refine k_bin2B rfl rfl rfl rfl ?_ | refine k_lenD rfl rfl ?_ | refine k_storeB rfl rfl rfl rfl rfl ?_ | refine k_loadD rfl rfl (by first | rfl | (simp only [pdTD_eq, pdSch, cellsD]; rfl)) ?_ | refine k_alloc rfl rfl ?_)
    | refine run_opsEnd ?_
    | refine run_region ?_
    | refine run_condT rfl (by first | rfl | assumption) ?_
    | refine run_block ?_
    | refine run_skip ?_
    | fail)
    refine run_loopS (ι := { j : Nat // j ≤ k ∧ ∀ g ∈ S.take j, g.1 ≠ x.1 })
      (fun j => [(2, .ptr 2 0), (3, .ptr 3 0), (6, .ptr 6 0), (10, .dat (.sl 4 80 (S.map pdTD))), (11, .dat (.val (.int .i64 ((S.map pdTD).length : Nat)))), (12, .dat (.val (.int .i64 (k : Nat)))), (20, .dat (.sl 4 80 (((S.map pdTD).take k).drop 0))), (21, .dat (.val (.int .i64 ((((S.map pdTD).take k).drop 0).length : Nat)))), (22, .dat (.val (.int .i64 (j.1 : Nat))))])
      (fun j => [(2, .box 61 (cellsD (pdSch S))), (3, .box 43 (cellsD (qR r))), (6, .box 149 (cellsD (pdTD x)))])
      (fun j => k - j.1) ⟨0, Nat.zero_le _, by simp⟩ id ?_ ?_
    · (refine ⟨?_, ?_, by rfl⟩ <;> repeat' (first | exact trivial | exact ALe.ptr rfl | exact ALe.own rfl | exact ALe.elt rfl | exact BLe.boxD _ _ | exact BLe.row rfl | exact BLe.res | exact ALe.dat (PLe.refl _) | exact CLe.nil | refine And.intro ?_ ?_ | refine ALe.iface ?_ | refine ALe.clo ?_ | refine CLe.cons ?_ ?_ | refine BLe.box ?_ | refine BLe.row ?_ | refine ALe.dat (PLe.of_eq ?_)))
    rintro ⟨j, hjk, hno⟩
    by_cases hjl : j < k
    · have hcj : decide ((j : Int) < (((((S.map pdTD).take k).drop 0).length : Nat) : Int)) = true := by rw [hlt2]; simpa using hjl
      obtain ⟨y, hy⟩ : ∃ y, S[j]? = some y := ⟨S[j]'(by omega), by simp⟩
      have hij : (((S.map pdTD).take k).drop 0)[((j : Nat) : Int).toNat]? = some (pdTD y) := by
        show (((S.map pdTD).take k).drop 0)[j]? = _
        rw [List.drop_zero, List.getElem?_take, if_pos hjl]
        simp [hy]
      by_cases hyx : y.1 = x.1
      · have hyx' : decide (y.1 = x.1) = true := by simpa using hyx
        have hnn : ¬ (S.map (·.1)).Nodup := nodup_not (f := fun d : TD => d.1) hx hy hjl hyx
        repeat' (first
    | refine run_seq ?_
    | (refine k_pick rfl ?_; first | refine k_indexAddrD rfl rfl rfl (by first | omega | (dsimp only; omega)) (by assumption) ?_ | refine k_assignD rfl rfl ?_ | refine k_fieldAddrB rfl rfl rfl ?_ | refine k_loadBD rfl rfl rfl (by first | rfl | (simp only [pdTD_eq, cellsD]; rfl)) ?_ | refine k_bin2B rfl rfl rfl rfl ?_ | refine k_storeB rfl rfl rfl rfl rfl ?_ | refine k_loadD rfl rfl (by first | rfl | (simp only [pdTD_eq, cellsD]; rfl)) ?_ | refine k_alloc rfl rfl ?_)
    | refine run_opsEnd ?_
    | refine run_region ?_
    | refine run_condT rfl (by first | rfl | assumption) ?_
    | refine run_block ?_
    | refine run_skip ?_
    | refine run_retOk (resOk_tmp rfl rfl ?_)
    | fail)
        all_goals exact PLe.of_eq (by simp [hnn])
      · have hyx' : decide (y.1 = x.1) = false := by simpa using hyx
        repeat' (first
    | refine run_seq ?_
    | (refine k_pick rfl ?_; first | refine k_indexAddrD rfl rfl rfl (by first | omega | (dsimp only; omega)) (by assumption) ?_ | refine k_moveD rfl rfl ?_ | refine k_fieldAddrB rfl rfl rfl ?_ | refine k_loadBD rfl rfl rfl (by first | rfl | (simp only [pdTD_eq, cellsD]; rfl)) ?_ | refine k_bin2B rfl rfl rfl rfl ?_ | refine k_storeB rfl rfl rfl rfl rfl ?_ | refine k_ariI rfl rfl rfl rfl (by first | omega | (dsimp only; omega)) ?_ | refine k_loadD rfl rfl (by first | rfl | (simp only [pdTD_eq, cellsD]; rfl)) ?_ | refine k_alloc rfl rfl ?_)
    | refine run_opsEnd ?_
    | refine run_region ?_
    | refine run_condT rfl (by first | rfl | assumption) ?_
    | refine run_condF rfl (by first | rfl | assumption) ?_
    | refine run_block ?_
    | refine run_blkEnd ?_
    | refine run_skip ?_
    | fail)
        refine run_again ?_
        refine ⟨⟨j + 1, by omega, mem_more (p := fun d : TD => d.1 ≠ x.1) hy hno hyx⟩, id, by simp only; omega, ?_⟩
        (refine ⟨?_, ?_, by rfl⟩ <;> repeat' (first | exact trivial | exact ALe.ptr rfl | exact ALe.own rfl | exact ALe.elt rfl | exact BLe.boxD _ _ | exact BLe.row rfl | exact BLe.res | exact ALe.dat (PLe.refl _) | exact CLe.nil | refine And.intro ?_ ?_ | refine ALe.iface ?_ | refine ALe.clo ?_ | refine CLe.cons ?_ ?_ | refine BLe.box ?_ | refine BLe.row ?_ | refine ALe.dat (PLe.of_eq ?_)))
    · have hcj : decide ((j : Int) < (((((S.map pdTD).take k).drop 0).length : Nat) : Int)) = false := by rw [hlt2]; simpa using hjl
      have hjk' : j = k := by omega
      subst hjk'
      have c4 := wfA_c S x.2
      cases hw : wfA S x.2 <;> rw [hw] at c4
      · repeat' (first
    | refine run_seq ?_
    | (refine k_pick rfl ?_; first | refine k_assignD rfl rfl ?_ | refine k_fieldAddrB rfl rfl rfl ?_ | refine k_loadW rfl rfl rfl (by first | rfl | (simp only [pdTD_eq, cellsD]; rfl)) ?_ | refine k_loadBD rfl rfl rfl (by first | rfl | (simp only [pdTD_eq, cellsD]; rfl)) ?_ | refine k_bin2B rfl rfl rfl rfl ?_ | refine k_call rfl (by kernel_rfl) rfl (by first | exact c4 | (simp only [← pdTD_eq]; exact c4)) ?_ | refine k_not rfl rfl ?_)
    | refine run_opsEnd ?_
    | refine run_region ?_
    | refine run_condT rfl (by first | rfl | assumption) ?_
    | refine run_condF rfl (by first | rfl | assumption) ?_
    | refine run_exit rfl ?_
    | refine run_retOk (resOk_tmp rfl rfl ?_)
    | fail)
        all_goals (have e := all_not (p := fun d : TD => wfA S d.2) hx hw; exact PLe.of_eq (by rw [e]; simp))
      · repeat' (first
    | refine run_seq ?_
    | (refine k_pick rfl ?_; first | refine k_moveD rfl rfl ?_ | refine k_fieldAddrB rfl rfl rfl ?_ | refine k_loadW rfl rfl rfl (by first | rfl | (simp only [pdTD_eq, cellsD]; rfl)) ?_ | refine k_loadBD rfl rfl rfl (by first | rfl | (simp only [pdTD_eq, cellsD]; rfl)) ?_ | refine k_bin2B rfl rfl rfl rfl ?_ | refine k_call rfl (by kernel_rfl) rfl (by first | exact c4 | (simp only [← pdTD_eq]; exact c4)) ?_ | refine k_not rfl rfl ?_ | refine k_ariI rfl rfl rfl rfl (by first | omega | (dsimp only; omega)) ?_)
    | refine run_opsEnd ?_
    | refine run_region ?_
    | refine run_condF rfl (by first | rfl | assumption) ?_
    | refine run_blkEnd ?_
    | refine run_skip ?_
    | refine run_exit rfl ?_
    | fail)
        refine run_again ?_
        refine ⟨⟨j + 1, by omega, nodup_more (f := fun d : TD => d.1) hx hnd hno, mem_more (p := fun d : TD => wfA S d.2 = true) hx hall hw⟩, id, by simp only; omega, ?_⟩
        (refine ⟨?_, ?_, by rfl⟩ <;> repeat' (first | exact trivial | exact ALe.ptr rfl | exact ALe.own rfl | exact ALe.elt rfl | exact BLe.boxD _ _ | exact BLe.row rfl | exact BLe.res | exact ALe.dat (PLe.refl _) | exact CLe.nil | refine And.intro ?_ ?_ | refine ALe.iface ?_ | refine ALe.clo ?_ | refine CLe.cons ?_ ?_ | refine BLe.box ?_ | refine BLe.row ?_ | refine ALe.dat (PLe.of_eq ?_)))
  · have hc : decide ((k : Int) < (((S.map pdTD).length : Nat) : Int)) = false := by rw [hlen]; simpa using hlt
    have hkk : S.take k = S := List.take_of_length_le (by omega)
    rw [hkk] at hnd hall
    have e1 : (S.all fun d => wfA S d.2) = true := List.all_eq_true.2 hall
    have e2 : decide (S.map (·.1)).Nodup = true := by simpa using hnd
    rw [e1, e2]
    repeat' (first
    | refine run_seq ?_
    | (refine k_pick rfl ?_; first | refine k_assignD rfl rfl ?_ | refine k_loadW rfl rfl rfl (by first | rfl | (simp only [cellsD]; rfl)) ?_ | refine k_bin2B rfl rfl rfl rfl ?_ | refine k_call rfl (by kernel_rfl) rfl (by first | exact c1) ?_)
    | refine run_opsEnd ?_
    | refine run_region ?_
    | refine run_condF rfl (by first | rfl | assumption) ?_
    | refine run_exit rfl ?_
    | refine run_retOk (resOk_tmp rfl rfl ?_)
    | fail)
    all_goals exact PLe.refl _
theorem tFormed_p (S : List TD) (r : TR) : PCall Try.prog 35 [pdSch S, qR r, .val (.slice none 0 0)] (.val (.bool (wfS S r && orS S r zGV))) := by
  refine pcall_arg3 (d' := .sl 6 88 []) ?_ (PLe.nil _ _)
  have c1 := wellFormed_p S r
  have c2 := pcall_arg3 (orderlyKeys_p S r zGV) zV_le
  unfold zV at c2
  refine pcall_of_run Try.func35 rfl Try.ntmps35 rfl (fun X => ?_)
  cases hw : wfS S r <;> rw [hw] at c1
  · repeat' (first
    | refine run_seq ?_
    | (refine k_pick rfl ?_; first | refine k_assignD rfl rfl ?_ | refine k_loadW rfl rfl rfl (by first | rfl | (simp only [cellsD]; rfl)) ?_ | refine k_boxW rfl rfl rfl (by first | rfl | (simp only [cellsD]; rfl)) ?_ | refine k_call rfl (by kernel_rfl) rfl (by first | exact c1) ?_ | refine k_not rfl rfl ?_)
    | refine run_opsEnd ?_
    | refine run_region ?_
    | refine run_condT rfl (by first | rfl | assumption) ?_
    | refine run_retOk (resOk_tmp rfl rfl ?_)
    | fail)
    all_goals exact PLe.refl _
  · repeat' (first
    | refine run_seq ?_
    | (refine k_pick rfl ?_; first | refine k_assignD rfl rfl ?_ | refine k_moveD rfl rfl ?_ | refine k_loadW rfl rfl rfl (by first | rfl | (simp only [cellsD]; rfl)) ?_ | refine k_boxW rfl rfl rfl (by first | rfl | (simp only [cellsD]; rfl)) ?_ | refine k_call rfl (by kernel_rfl) rfl (by first | exact c1) ?_ | refine k_lenD rfl rfl ?_ | refine k_not rfl rfl ?_)
    | refine run_opsEnd ?_
    | refine run_region ?_
    | refine run_condF rfl (by first | rfl | assumption) ?_
    | refine run_block ?_
    | refine run_skip ?_
    | fail)
    refine run_loopS (ι := Unit)
      (fun k => [(3, .ptr 3 0), (4, .ptr 4 0), (14, .dat (.val (.int .i64 ((([] : List PD).length : Nat) : Int)))), (15, .dat (.val (.int .i64 0)))])
      (fun k => [(3, .box 61 (cellsD (pdSch S))), (4, .box 43 (cellsD (qR r)))]) (fun k => 0) () id ?_ ?_
    · (refine ⟨?_, ?_, by rfl⟩ <;> repeat' (first | exact trivial | exact ALe.ptr rfl | exact ALe.own rfl | exact ALe.elt rfl | exact BLe.boxD _ _ | exact BLe.row rfl | exact BLe.res | exact ALe.dat (PLe.refl _) | exact CLe.nil | refine And.intro ?_ ?_ | refine ALe.iface ?_ | refine ALe.clo ?_ | refine CLe.cons ?_ ?_ | refine BLe.box ?_ | refine BLe.row ?_ | refine ALe.dat (PLe.of_eq ?_)))
    rintro ⟨⟩
    have hc : decide ((0 : Int) < ((([] : List PD).length : Nat) : Int)) = false := rfl
    repeat' (first
    | refine run_seq ?_
    | (refine k_pick rfl ?_; first | refine k_assignD rfl rfl ?_ | refine k_loadW rfl rfl rfl (by first | rfl | (simp only [cellsD]; rfl)) ?_ | refine k_bin2B rfl rfl rfl rfl ?_ | refine k_call rfl (by kernel_rfl) rfl (by first | exact c2) ?_ | refine k_build rfl rfl rfl ?_)
    | refine run_opsEnd ?_
    | refine run_region ?_
    | refine run_condF rfl (by first | rfl | assumption) ?_
    | refine run_exit rfl ?_
    | refine run_retOk (resOk_tmp rfl rfl ?_)
    | fail)
    all_goals exact PLe.refl _
def tListR (q : TL) : TR := .mk false ⟨#[]⟩ (.mk ⟨#[]⟩ [q] []) ⟨#[]⟩
theorem tList_p (q : TL) : PCall Try.prog 36 [qL q] (qR (tListR q)) := by
  refine pcall_of_run Try.func36 rfl Try.ntmps36 rfl (fun X => ?_)
  repeat' (first
    | refine run_seq ?_
    | (refine k_pick rfl ?_; first | refine k_loadW rfl rfl rfl (by first | rfl | (simp only [cellsD]; rfl)) ?_ | refine k_boxW rfl rfl rfl (by first | rfl | (simp only [cellsD]; rfl)) ?_ | refine k_storeB rfl rfl rfl rfl rfl ?_ | refine k_alloc rfl rfl ?_ | refine k_buildSlice rfl rfl (by kernel_rfl) rfl rfl rfl rfl rfl ?_ | refine k_buildG rfl rfl rfl ?_)
    | refine run_opsEnd ?_
    | refine run_region ?_
    | fail)
  refine run_frz (fun _ => false) (fun k => k == 4) ?_
  repeat' (first
    | refine run_retOk (resOk_cell rfl rfl rfl (by first | rfl | (simp only [cellsD]; rfl)) ?_)
    | fail)
  all_goals (refine PLe.aggs ⟨PLe.refl _, PLe.refl _, PLe.refl _, PLe.of_eq (by simp only [tListR, TR.atom, TA.lists, pdLs, pdL_eq, qL]), ?_, PLe.refl _, trivial⟩; show PLe _ (.sl 8 144 (pdMs [])); simp only [pdMs]; exact PLe.nil _ _)
end Go.Proofs.Ytlghpcokbppkfaa

/- The reference's words on types: the package's way to a key's default. -/
set_option linter.unusedVariables false
namespace Go.Proofs.Ytlghpcokbppkfaa
open Go.RowKit
set_option linter.unusedSimpArgs false
set_option maxRecDepth 10000
set_option maxHeartbeats 4000000

theorem errNew_p (s : ByteArray) : PCall Try.prog 146 [.val (.string s)] (.iface 242 (.ptr (.agg [.val (.string s)]))) := by
  refine pcall_of_run Try.func146 rfl Try.ntmps146 rfl (fun X => ?_)
  repeat' (first
    | refine run_seq ?_
    | (refine k_pick rfl ?_; first | refine k_assignD rfl rfl ?_ | refine k_moveD rfl rfl ?_ | refine k_boxW rfl rfl rfl (by first | rfl | (simp only [cellsD]; rfl)) ?_ | refine k_build rfl rfl rfl ?_)
    | refine run_opsEnd ?_
    | refine run_region ?_
    | fail)
  refine run_frz (fun t => t == 244) (fun k => k == 5) ?_
  refine k_pick rfl ?_
  refine k_iface rfl rfl (by kernel_rfl) ?_
  repeat' (first
    | (refine k_pick rfl ?_; refine k_assignD rfl rfl ?_)
    | refine run_opsEnd ?_
    | refine run_retOk (resOk_tmp rfl rfl ?_)
    | fail)
  all_goals exact PLe.refl _
/-! ### A key's default -/
theorem gaErr_p (S : List TD) (q : TL) (k : ByteArray) (h : resR S q.elem = none ∨ ∃ a, resR S q.elem = some a ∧ a.maps = []) :
    ∃ e : PD, PCall Try.prog 123 [.ptr (aSch S), .ptr (tL q), .val (.string k)] (.tup [.val .nilIface, .iface 242 e]) := by
  have c1 := resolve_p S q.elem
  have cE := errNew_p
  rw [tL_eq]
  rcases h with h | ⟨a, h, hm⟩
  · apply Exists.intro
    rw [h] at c1
    simp only [Option.getD_none, Option.isSome_none] at c1
    unfold pTR at c1
    rw [pTA_empty] at c1
    refine pcall_of_run Try.func123 rfl Try.ntmps123 rfl (fun X => ?_)
    repeat' (first
    | refine run_seq ?_
    | (refine k_pick rfl ?_; first | refine k_assignD rfl rfl ?_ | refine k_moveD rfl rfl ?_ | refine k_call rfl (by kernel_rfl) rfl (by first | exact c1 | exact cE _) ?_ | refine k_extract rfl rfl rfl ?_ | refine k_nilD rfl rfl ?_ | refine k_not rfl rfl ?_ | refine k_storeB rfl rfl rfl rfl rfl ?_ | refine k_fieldAddrD rfl rfl rfl rfl (by first | rfl | (simp only [cellsD]; rfl)) ?_ | refine k_loadD rfl rfl (by first | rfl | (simp only [cellsD]; rfl)) ?_ | refine k_alloc rfl rfl ?_)
    | refine run_opsEnd ?_
    | refine run_region ?_
    | refine run_condT rfl (by first | rfl | assumption) ?_
    | refine run_retOk (resOk_tmp2 rfl rfl rfl ?_ ?_)
    | fail)
    all_goals exact PLe.refl _
  · apply Exists.intro
    rw [h] at c1
    simp only [Option.getD_some, Option.isSome_some] at c1
    unfold pTR pTA at c1
    rw [hm] at c1
    simp only [hdM] at c1
    refine pcall_of_run Try.func123 rfl Try.ntmps123 rfl (fun X => ?_)
    repeat' (first
    | refine run_seq ?_
    | (refine k_pick rfl ?_; first | refine k_assignD rfl rfl ?_ | refine k_moveD rfl rfl ?_ | refine k_fieldAddrB rfl rfl rfl ?_ | refine k_loadBD rfl rfl rfl (by first | rfl | (simp only [cellsD]; rfl)) ?_ | refine k_call rfl (by kernel_rfl) rfl (by first | exact c1 | exact cE _) ?_ | refine k_extract rfl rfl rfl ?_ | refine k_nilD rfl rfl ?_ | refine k_cmpNil rfl rfl rfl (by kernel_rfl) (by first | exact NilIs.ptr | exact NilIs.none | exact NilIs.nilI | assumption) rfl ?_ | refine k_not rfl rfl ?_ | refine k_storeB rfl rfl rfl rfl rfl ?_ | refine k_fieldAddrD rfl rfl rfl rfl (by first | rfl | (simp only [cellsD]; rfl)) ?_ | refine k_loadD rfl rfl (by first | rfl | (simp only [cellsD]; rfl)) ?_ | refine k_alloc rfl rfl ?_)
    | refine run_opsEnd ?_
    | refine run_region ?_
    | refine run_condT rfl (by first | rfl | assumption) ?_
    | refine run_condF rfl (by first | rfl | assumption) ?_
    | refine run_skip ?_
    | refine run_retOk (resOk_tmp2 rfl rfl rfl ?_ ?_)
    | fail)
    all_goals exact PLe.refl _
theorem gaOk_p (S : List TD) (q : TL) (k : ByteArray) {a : TA} {m : TM} {mr : List TM} (h : resR S q.elem = some a) (hm : a.maps = m :: mr) :
    PCall Try.prog 123 [.ptr (aSch S), .ptr (tL q), .val (.string k)] (.tup [dfJ ((lastF m.fields k).getD zTF).dflt, .val .nilIface]) := by
  have c1 := resolve_p S q.elem
  have c2 := mFind_p m k
  rw [tL_eq]
  rw [h] at c1
  simp only [Option.getD_some, Option.isSome_some] at c1
  unfold pTR pTA at c1
  rw [hm] at c1
  simp only [hdM] at c1
  generalize (lastF m.fields k).getD zTF = f at c2
  rw [tF_eq] at c2
  refine pcall_of_run Try.func123 rfl Try.ntmps123 rfl (fun X => ?_)
  repeat' (first
    | refine run_seq ?_
    | (refine k_pick rfl ?_; first | refine k_assignD rfl rfl ?_ | refine k_moveD rfl rfl ?_ | refine k_fieldAddrB rfl rfl rfl ?_ | refine k_loadBD rfl rfl rfl (by first | rfl | (simp only [cellsD]; rfl)) ?_ | refine k_call rfl (by kernel_rfl) rfl (by first | exact c1 | exact c2) ?_ | refine k_extract rfl rfl rfl ?_ | refine k_nilD rfl rfl ?_ | refine k_cmpNil rfl rfl rfl (by kernel_rfl) (by first | exact NilIs.ptr | exact NilIs.none | exact NilIs.nilI | assumption) rfl ?_ | refine k_not rfl rfl ?_ | refine k_storeB rfl rfl rfl rfl rfl ?_ | refine k_fieldAddrD rfl rfl rfl rfl (by first | rfl | (simp only [cellsD]; rfl)) ?_ | refine k_loadD rfl rfl (by first | rfl | (simp only [cellsD]; rfl)) ?_ | refine k_alloc rfl rfl ?_)
    | refine run_opsEnd ?_
    | refine run_region ?_
    | refine run_condF rfl (by first | rfl | assumption) ?_
    | refine run_skip ?_
    | refine run_retOk (resOk_tmp2 rfl rfl rfl ?_ ?_)
    | fail)
  all_goals exact PLe.refl _
theorem door_p {S : List TD} {q : TL} {k : ByteArray} {d e : PD} (c : PCall Try.prog 123 [.ptr (aSch S), .ptr (tL q), .val (.string k)] (.tup [d, e])) :
    PCall Try.prog 88 [.ptr (aSch S), .ptr (tL q), .val (.string k)] (.tup [d, e]) := by
  refine pcall_of_run Try.func88 rfl Try.ntmps88 rfl (fun X => ?_)
  repeat' (first
    | refine run_seq ?_
    | (refine k_pick rfl ?_; first | refine k_assignD rfl rfl ?_ | refine k_moveD rfl rfl ?_ | refine k_call rfl (by kernel_rfl) rfl (by first | exact c) ?_ | refine k_extract rfl rfl rfl ?_)
    | refine run_opsEnd ?_
    | refine run_region ?_
    | refine run_retOk (resOk_tmp2 rfl rfl rfl ?_ ?_)
    | fail)
  all_goals exact PLe.refl _
theorem nilIs_iface (t : Nat) (d : PD) : NilIs true (.iface t d) false := fun w F v hr => by
  unfold Rep at hr
  obtain ⟨u, rfl, _⟩ := hr
  exact ⟨_, _, rfl⟩
/-- The wrapper's answer where the package answers an error. -/
theorem kdErr_p (S : List TD) (q : TL) (k : ByteArray) (h : resR S q.elem = none ∨ ∃ a, resR S q.elem = some a ∧ a.maps = []) :
    PCall Try.prog 37 [pdSch S, pdL q, .val (.string k)] (.tup [.sl 6 88 [], .val (.bool false)]) := by
  obtain ⟨e, c⟩ := gaErr_p S q k h
  have c1 := door_p c
  rw [tL_eq] at c1
  have c2 := toListType_c q
  have c3 := toSchema_p S
  refine pcall_of_run Try.func37 rfl Try.ntmps37 rfl (fun X => ?_)
  repeat' (first
    | refine run_seq ?_
    | (refine k_pick rfl ?_; first | refine k_assignD rfl rfl ?_ | refine k_moveD rfl rfl ?_ | refine k_loadW rfl rfl rfl (by first | rfl | (simp only [pdL_eq, cellsD]; rfl)) ?_ | refine k_boxW rfl rfl rfl (by first | rfl | (simp only [pdL_eq, cellsD]; rfl)) ?_ | refine k_call rfl (by kernel_rfl) rfl (by first | exact c2 | (simp only [← pdL_eq]; exact c2) | exact c3 | (simp only [← pdL_eq]; exact c3)) ?_ | refine k_storeB rfl rfl rfl rfl rfl ?_ | refine k_alloc rfl rfl ?_)
    | refine run_opsEnd ?_
    | refine run_region ?_
    | fail)
  refine run_frz (fun t => t == 138) (fun k => k == 8) ?_
  have hn := nilIs_iface 242 e
  repeat' (first
    | refine run_seq ?_
    | (refine k_pick rfl ?_; first | refine k_assignD rfl rfl ?_ | refine k_moveD rfl rfl ?_ | refine k_call rfl (by kernel_rfl) rfl (by first | exact c1 | (simp only [← pdL_eq]; exact c1) | exact c3 | (simp only [← pdL_eq]; exact c3)) ?_ | refine k_extract rfl rfl rfl ?_ | refine k_cmpNil rfl rfl rfl (by kernel_rfl) (by first | exact NilIs.ptr | exact NilIs.none | exact NilIs.nilI | assumption) rfl ?_)
    | refine run_opsEnd ?_
    | refine run_region ?_
    | refine run_condT rfl (by first | rfl | assumption) ?_
    | refine run_retOk (resOk_tmp2 rfl rfl rfl ?_ ?_)
    | fail)
  · exact PLe.nil _ _
  · exact PLe.refl _
/-- .. where it answers a default. -/
theorem kdOk_p (S : List TD) (q : TL) (k : ByteArray) {a : TA} {m : TM} {mr : List TM} (h : resR S q.elem = some a) (hm : a.maps = m :: mr) :
    PCall Try.prog 37 [pdSch S, pdL q, .val (.string k)] (.tup [.sl 6 88 (pdVs (nD ((lastF m.fields k).getD zTF).dflt)), .val (.bool true)]) := by
  have c1 := door_p (gaOk_p S q k h hm)
  rw [tL_eq] at c1
  have c2 := toListType_c q
  have c3 := toSchema_p S
  generalize (lastF m.fields k).getD zTF = f at c1
  cases hd : f.dflt with
  | nil =>
    rw [hd] at c1
    simp only [dfJ] at c1
    refine pcall_of_run Try.func37 rfl Try.ntmps37 rfl (fun X => ?_)
    repeat' (first
    | refine run_seq ?_
    | (refine k_pick rfl ?_; first | refine k_assignD rfl rfl ?_ | refine k_moveD rfl rfl ?_ | refine k_loadW rfl rfl rfl (by first | rfl | (simp only [pdL_eq, cellsD]; rfl)) ?_ | refine k_boxW rfl rfl rfl (by first | rfl | (simp only [pdL_eq, cellsD]; rfl)) ?_ | refine k_call rfl (by kernel_rfl) rfl (by first | exact c2 | (simp only [← pdL_eq]; exact c2) | exact c3 | (simp only [← pdL_eq]; exact c3)) ?_ | refine k_storeB rfl rfl rfl rfl rfl ?_ | refine k_alloc rfl rfl ?_)
    | refine run_opsEnd ?_
    | refine run_region ?_
    | fail)
    refine run_frz (fun t => t == 138) (fun k => k == 8) ?_
    repeat' (first
    | refine run_seq ?_
    | (refine k_pick rfl ?_; first | refine k_assignD rfl rfl ?_ | refine k_moveD rfl rfl ?_ | refine k_call rfl (by kernel_rfl) rfl (by first | exact c1 | (simp only [← pdL_eq]; exact c1) | exact c3 | (simp only [← pdL_eq]; exact c3)) ?_ | refine k_extract rfl rfl rfl ?_ | refine k_cmpNil rfl rfl rfl (by kernel_rfl) (by first | exact NilIs.ptr | exact NilIs.none | exact NilIs.nilI | assumption) rfl ?_)
    | refine run_opsEnd ?_
    | refine run_region ?_
    | refine run_condT rfl (by first | rfl | assumption) ?_
    | refine run_condF rfl (by first | rfl | assumption) ?_
    | refine run_skip ?_
    | refine run_retOk (resOk_tmp2 rfl rfl rfl ?_ ?_)
    | fail)
    · exact PLe.nil _ _
    · exact PLe.refl _
  | cons x xr =>
    rw [hd] at c1
    simp only [dfJ] at c1
    by_cases hj : plainJ x = .null
    · have hn := pdJ_nil hj
      refine pcall_of_run Try.func37 rfl Try.ntmps37 rfl (fun X => ?_)
      repeat' (first
    | refine run_seq ?_
    | (refine k_pick rfl ?_; first | refine k_assignD rfl rfl ?_ | refine k_moveD rfl rfl ?_ | refine k_loadW rfl rfl rfl (by first | rfl | (simp only [pdL_eq, cellsD]; rfl)) ?_ | refine k_boxW rfl rfl rfl (by first | rfl | (simp only [pdL_eq, cellsD]; rfl)) ?_ | refine k_call rfl (by kernel_rfl) rfl (by first | exact c2 | (simp only [← pdL_eq]; exact c2) | exact c3 | (simp only [← pdL_eq]; exact c3)) ?_ | refine k_storeB rfl rfl rfl rfl rfl ?_ | refine k_alloc rfl rfl ?_)
    | refine run_opsEnd ?_
    | refine run_region ?_
    | fail)
      refine run_frz (fun t => t == 138) (fun k => k == 8) ?_
      repeat' (first
    | refine run_seq ?_
    | (refine k_pick rfl ?_; first | refine k_assignD rfl rfl ?_ | refine k_moveD rfl rfl ?_ | refine k_call rfl (by kernel_rfl) rfl (by first | exact c1 | (simp only [← pdL_eq]; exact c1) | exact c3 | (simp only [← pdL_eq]; exact c3)) ?_ | refine k_extract rfl rfl rfl ?_ | refine k_cmpNil rfl rfl rfl (by kernel_rfl) (by first | exact NilIs.ptr | exact NilIs.none | exact NilIs.nilI | assumption) rfl ?_)
    | refine run_opsEnd ?_
    | refine run_region ?_
    | refine run_condT rfl (by first | rfl | assumption) ?_
    | refine run_condF rfl (by first | rfl | assumption) ?_
    | refine run_skip ?_
    | refine run_retOk (resOk_tmp2 rfl rfl rfl ?_ ?_)
    | fail)
      · simp only [nD, if_pos (isNull_iff.2 hj)]; exact PLe.nil _ _
      · exact PLe.refl _
    · have hn := pdJ_some hj
      have c4 := fromTree_p (plainJ x)
      rw [un_plain] at c4
      refine pcall_of_run Try.func37 rfl Try.ntmps37 rfl (fun X => ?_)
      repeat' (first
    | refine run_seq ?_
    | (refine k_pick rfl ?_; first | refine k_assignD rfl rfl ?_ | refine k_moveD rfl rfl ?_ | refine k_loadW rfl rfl rfl (by first | rfl | (simp only [pdL_eq, cellsD]; rfl)) ?_ | refine k_boxW rfl rfl rfl (by first | rfl | (simp only [pdL_eq, cellsD]; rfl)) ?_ | refine k_call rfl (by kernel_rfl) rfl (by first | exact c2 | (simp only [← pdL_eq]; exact c2) | exact c3 | (simp only [← pdL_eq]; exact c3)) ?_ | refine k_storeB rfl rfl rfl rfl rfl ?_ | refine k_alloc rfl rfl ?_)
    | refine run_opsEnd ?_
    | refine run_region ?_
    | fail)
      refine run_frz (fun t => t == 138) (fun k => k == 8) ?_
      repeat' (first
    | refine run_seq ?_
    | (refine k_pick rfl ?_; first | refine k_assignD rfl rfl ?_ | refine k_moveD rfl rfl ?_ | refine k_call rfl (by kernel_rfl) rfl (by first | exact c1 | (simp only [← pdL_eq]; exact c1) | exact c3 | (simp only [← pdL_eq]; exact c3) | exact c4 | (simp only [← pdL_eq]; exact c4)) ?_ | refine k_extract rfl rfl rfl ?_ | refine k_cmpNil rfl rfl rfl (by kernel_rfl) (by first | exact NilIs.ptr | exact NilIs.none | exact NilIs.nilI | assumption) rfl ?_ | refine k_assignO rfl rfl ?_ | refine k_buildSlice rfl rfl (by kernel_rfl) rfl rfl rfl rfl rfl ?_)
    | refine run_opsEnd ?_
    | refine run_region ?_
    | refine run_condF rfl (by first | rfl | assumption) ?_
    | refine run_skip ?_
    | fail)
      refine run_frz (fun _ => false) (fun k => k == 26) ?_
      repeat' (first
    | refine run_retOk (resOk_tmp2 rfl rfl rfl ?_ ?_)
    | fail)
      · refine PLe.of_eq ?_
        simp only [nD, if_neg (fun h => hj (isNull_iff.1 h)), pdVs, pdV_eq]
        rfl
      · exact PLe.refl _
end Go.Proofs.Ytlghpcokbppkfaa

/- The law FnKeyDefault answers true. -/
set_option linter.unusedVariables false
namespace Go.Proofs.Ytlghpcokbppkfaa
open Go.RowKit
set_option linter.unusedSimpArgs false
set_option maxRecDepth 10000
set_option maxHeartbeats 8000000

def fit2k (ks : List ByteArray) : Bool := decide (ks.length ≤ 2147483647) && ks.all fun k => decide (k.size ≤ 2147483647)
theorem fits2k_p (ks : List ByteArray) : PCall Try.prog 64 [.sl 1 16 (pdS ks)] (.val (.bool (fit2k ks))) := by
  refine pcall_fits fun hfit => ?_
  have hb := (show Fits (.sl 1 16 (pdS ks)) from hfit _ (by simp)).sl
  rw [pdS_len] at hb
  have hb1 := hb.1
  clear hb
  have hlen := pdS_len ks
  refine pcall_of_run Try.func64 rfl Try.ntmps64 rfl (fun X => ?_)
  by_cases h0 : (2147483647 : Int) < ((pdS ks).length : Nat)
  · have e0 : decide ((2147483647 : Int) < ((pdS ks).length : Nat)) = true := by simpa using h0
    repeat' (first
    | refine run_seq ?_
    | (refine k_pick rfl ?_; first | refine k_assignD rfl rfl ?_ | refine k_moveD rfl rfl ?_ | refine k_bin2B rfl rfl rfl rfl ?_ | refine k_lenD rfl rfl ?_)
    | refine run_opsEnd ?_
    | refine run_region ?_
    | refine run_condT rfl (by first | rfl | assumption) ?_
    | refine run_retOk (resOk_tmp rfl rfl ?_)
    | fail)
    all_goals exact PLe.of_eq (by rw [show fit2k ks = false by simp [fit2k]; intro h; omega])
  have e0 : decide ((2147483647 : Int) < ((pdS ks).length : Nat)) = false := by simpa using h0
  repeat' (first
    | refine run_seq ?_
    | (refine k_pick rfl ?_; first | refine k_assignD rfl rfl ?_ | refine k_moveD rfl rfl ?_ | refine k_bin2B rfl rfl rfl rfl ?_ | refine k_lenD rfl rfl ?_)
    | refine run_opsEnd ?_
    | refine run_region ?_
    | refine run_condF rfl (by first | rfl | assumption) ?_
    | refine run_block ?_
    | refine run_skip ?_
    | fail)
  refine run_loopS (ι := { k : Nat // k ≤ ks.length ∧ ((ks.take k).all fun k => decide (k.size ≤ 2147483647)) = true })
    (fun k => [(8, .dat (.sl 1 16 (pdS ks))), (9, .dat (.val (.int .i64 ((pdS ks).length : Nat)))), (10, .dat (.val (.int .i64 (k.1 : Nat))))])
    (fun k => []) (fun k => ks.length - k.1) ⟨0, Nat.zero_le _, by simp⟩ id ?_ ?_
  · (refine ⟨?_, ?_, by rfl⟩ <;> repeat' (first | exact trivial | exact ALe.ptr rfl | exact ALe.own rfl | exact ALe.elt rfl | exact BLe.boxD _ _ | exact BLe.row rfl | exact BLe.res | exact ALe.dat (PLe.refl _) | exact CLe.nil | refine And.intro ?_ ?_ | refine ALe.iface ?_ | refine ALe.clo ?_ | refine CLe.cons ?_ ?_ | refine BLe.box ?_ | refine BLe.row ?_ | refine ALe.dat (PLe.of_eq ?_)))
  · rintro ⟨k, hk, hn⟩
    by_cases hlt : k < ks.length
    · have hc : decide ((k : Int) < (((pdS ks).length : Nat) : Int)) = true := by rw [hlen]; simpa using hlt
      obtain ⟨f, hf⟩ : ∃ f, ks[k]? = some f := ⟨ks[k], by simp [hlt]⟩
      have hi : (pdS ks)[((k : Nat) : Int).toNat]? = some (.val (.string f)) := pdS_at hf
      repeat' (first
    | refine run_seq ?_
    | (refine k_pick rfl ?_; first | refine k_indexAddrD rfl rfl rfl (by first | omega | (dsimp only; omega)) (by assumption) ?_ | refine k_assignD rfl rfl ?_ | refine k_moveD rfl rfl ?_ | refine k_bin2B rfl rfl rfl rfl ?_ | refine k_lenS rfl rfl (by kernel_rfl) ?_ | refine k_ariI rfl rfl rfl rfl (by first | omega | (dsimp only; omega)) ?_ | refine k_loadD rfl rfl (by first | rfl | (simp only [cellsD]; rfl)) ?_)
    | refine run_opsEnd ?_
    | refine run_region ?_
    | refine run_condT rfl (by first | rfl | assumption) ?_
    | refine run_cond rfl (fun h => ?_) (fun h => ?_)
    | refine run_block ?_
    | refine run_blkEnd ?_
    | refine run_skip ?_
    | refine run_retOk (resOk_tmp rfl rfl ?_)
    | fail)
      · have e := all_not (p := fun k : ByteArray => decide (k.size ≤ 2147483647)) hf (by simp at h ⊢; omega)
        exact PLe.of_eq (by rw [show fit2k ks = false by simp only [fit2k, e, Bool.and_false]])
      · refine run_again ?_
        refine ⟨⟨k + 1, by omega, all_take (p := fun k : ByteArray => decide (k.size ≤ 2147483647)) hn hf (by simp at h ⊢; omega)⟩, id, by simp only; omega, ?_⟩
        (refine ⟨?_, ?_, by rfl⟩ <;> repeat' (first | exact trivial | exact ALe.ptr rfl | exact ALe.own rfl | exact ALe.elt rfl | exact BLe.boxD _ _ | exact BLe.row rfl | exact BLe.res | exact ALe.dat (PLe.refl _) | exact CLe.nil | refine And.intro ?_ ?_ | refine ALe.iface ?_ | refine ALe.clo ?_ | refine CLe.cons ?_ ?_ | refine BLe.box ?_ | refine BLe.row ?_ | refine ALe.dat (PLe.of_eq ?_)))
    · have hc : decide ((k : Int) < (((pdS ks).length : Nat) : Int)) = false := by rw [hlen]; simpa using hlt
      have e : (ks.all fun k => decide (k.size ≤ 2147483647)) = true := by rwa [List.take_of_length_le (by omega)] at hn
      repeat' (first
    | refine run_seq ?_
    | (refine k_pick rfl ?_; first | refine k_assignD rfl rfl ?_ | refine k_bin2B rfl rfl rfl rfl ?_)
    | refine run_opsEnd ?_
    | refine run_region ?_
    | refine run_condF rfl (by first | rfl | assumption) ?_
    | refine run_exit rfl ?_
    | refine run_retOk (resOk_tmp rfl rfl ?_)
    | fail)
      all_goals exact PLe.of_eq (by rw [show fit2k ks = true by simp only [fit2k, e, Bool.and_true]; simp; omega])
theorem fits9_p (q : TL) : ∃ b, PCall Try.prog 34 [qL q] (.val (.bool b)) := by
  have c := fits2k_p q.keys
  by_cases h1 : (2147483647 : Int) < (q.rel.size : Nat)
  · refine ⟨false, ?_⟩
    have e1 : decide ((2147483647 : Int) < (q.rel.size : Nat)) = true := by simpa using h1
    refine pcall_of_run Try.func34 rfl Try.ntmps34 rfl (fun X => ?_)
    repeat' (first
    | refine run_seq ?_
    | (refine k_pick rfl ?_; first | refine k_assignD rfl rfl ?_ | refine k_fieldAddrB rfl rfl rfl ?_ | refine k_loadBD rfl rfl rfl (by first | rfl | (simp only [cellsD]; rfl)) ?_ | refine k_bin2B rfl rfl rfl rfl ?_ | refine k_boxW rfl rfl rfl (by first | rfl | (simp only [cellsD]; rfl)) ?_ | refine k_lenS rfl rfl (by kernel_rfl) ?_)
    | refine run_opsEnd ?_
    | refine run_region ?_
    | refine run_condT rfl (by first | rfl | assumption) ?_
    | refine run_retOk (resOk_tmp rfl rfl ?_)
    | fail)
    all_goals exact PLe.refl _
  · have e1 : decide ((2147483647 : Int) < (q.rel.size : Nat)) = false := by simpa using h1
    refine ⟨fit2k q.keys, ?_⟩
    refine pcall_of_run Try.func34 rfl Try.ntmps34 rfl (fun X => ?_)
    cases hb : fit2k q.keys <;> rw [hb] at c
    · repeat' (first
    | refine run_seq ?_
    | (refine k_pick rfl ?_; first | refine k_assignD rfl rfl ?_ | refine k_fieldAddrB rfl rfl rfl ?_ | refine k_loadBD rfl rfl rfl (by first | rfl | (simp only [cellsD]; rfl)) ?_ | refine k_bin2B rfl rfl rfl rfl ?_ | refine k_boxW rfl rfl rfl (by first | rfl | (simp only [cellsD]; rfl)) ?_ | refine k_call rfl (by kernel_rfl) rfl (by first | exact c) ?_ | refine k_lenS rfl rfl (by kernel_rfl) ?_ | refine k_not rfl rfl ?_)
    | refine run_opsEnd ?_
    | refine run_region ?_
    | refine run_condT rfl (by first | rfl | assumption) ?_
    | refine run_condF rfl (by first | rfl | assumption) ?_
    | refine run_skip ?_
    | refine run_retOk (resOk_tmp rfl rfl ?_)
    | fail)
      all_goals exact PLe.refl _
    · repeat' (first
    | refine run_seq ?_
    | (refine k_pick rfl ?_; first | refine k_assignD rfl rfl ?_ | refine k_fieldAddrB rfl rfl rfl ?_ | refine k_loadBD rfl rfl rfl (by first | rfl | (simp only [cellsD]; rfl)) ?_ | refine k_bin2B rfl rfl rfl rfl ?_ | refine k_boxW rfl rfl rfl (by first | rfl | (simp only [cellsD]; rfl)) ?_ | refine k_call rfl (by kernel_rfl) rfl (by first | exact c) ?_ | refine k_lenS rfl rfl (by kernel_rfl) ?_ | refine k_not rfl rfl ?_)
    | refine run_opsEnd ?_
    | refine run_region ?_
    | refine run_condF rfl (by first | rfl | assumption) ?_
    | refine run_skip ?_
    | refine run_retOk (resOk_tmp rfl rfl ?_)
    | fail)
      all_goals exact PLe.refl _
/-! ### What a well formed type tells -/
theorem specR_res {S : List TD} {r : TR} (h : (S.map (·.1)).Nodup) : specR S r = resR S r := by
  unfold specR resR specN resN
  rw [first_last h]
theorem wfA_maps {S : List TD} {a : TA} (h : wfA S a = true) {m : TM} {mr : List TM} (hm : a.maps = m :: mr) : (m.fields.map (·.name)).Nodup := by
  obtain ⟨s, l, ms⟩ := a
  simp only [TA.maps] at hm
  subst hm
  rw [wfA] at h
  simp only [Bool.and_eq_true] at h
  have h2 := h.2
  rw [wfMh] at h2
  obtain ⟨fs, e, r⟩ := m
  rw [wfM] at h2
  simp only [Bool.and_eq_true, decide_eq_true_eq] at h2
  exact h2.1.2.1
theorem setRel_maps {a a' : TA} {rel : ByteArray} (h : setRel a rel = some a') {m : TM} {mr : List TM} (hm : a'.maps = m :: mr) : ∃ m0 r0, a.maps = m0 :: r0 ∧ m.fields = m0.fields := by
  obtain ⟨sc, ls, ms⟩ := a
  cases ms with
  | cons m0 r0 =>
    cases h
    simp only [TA.maps, List.cons.injEq] at hm
    exact ⟨m0, r0, rfl, by rw [← hm.1]; rfl⟩
  | nil =>
    cases ls with
    | cons q lr => cases h; simp [TA.maps] at hm
    | nil => cases h
theorem firstD_mem {nm : ByteArray} : ∀ {l : List TD} {d : TD}, firstD l nm = some d → d ∈ l
  | [], _, h => by cases h
  | x :: r, d, h => by
    simp only [firstD] at h
    split at h
    · cases h; exact List.mem_cons_self ..
    · exact List.mem_cons_of_mem _ (firstD_mem h)
theorem wf_fields {S : List TD} {e : TR} (hA : ∀ d ∈ S, wfA S d.2 = true) (hw : wfR S e = true) {a : TA} (h : specR S e = some a) {m : TM} {mr : List TM} (hm : a.maps = m :: mr) : (m.fields.map (·.name)).Nodup := by
  unfold specR at h
  obtain ⟨a0, h0, h1⟩ := Option.bind_eq_some_iff.1 h
  have hw0 : wfA S a0 = true := by
    unfold specN at h0
    obtain ⟨b, n, ea, rl⟩ := e
    cases b
    · cases h0
      rw [wfR] at hw
      simp only [Bool.and_eq_true, Bool.false_or] at hw
      exact hw.1
    · obtain ⟨d, hd, rfl⟩ := Option.map_eq_some_iff.1 h0
      exact hA d (firstD_mem hd)
  split at h1
  · cases h1; exact wfA_maps hw0 hm
  · obtain ⟨m0, r0, e0, ef⟩ := setRel_maps h1 hm
    rw [ef]
    exact wfA_maps hw0 e0
theorem firstF_name {nm : ByteArray} : ∀ {l : List TF} {f : TF}, firstF l nm = some f → f.name = nm
  | [], _, h => by cases h
  | x :: r, f, h => by
    simp only [firstF] at h
    split at h
    · cases h; assumption
    · exact firstF_name h
theorem firstF_last {nm : ByteArray} : ∀ {l : List TF}, (l.map (·.name)).Nodup → firstF l nm = lastF l nm
  | [], _ => rfl
  | x :: r, h => by
    rw [List.map_cons, List.nodup_cons] at h
    show (if x.name = nm then some x else firstF r nm) = (match lastF r nm with | some f => some f | none => if x.name = nm then some x else none)
    rw [firstF_last h.2]
    by_cases e : x.name = nm
    · have : lastF r nm = none := by
        cases hl : lastF r nm with
        | none => rfl
        | some f =>
          exfalso
          have h1 := lastF_mem nm hl
          rw [← firstF_last h.2] at hl
          have h2 := firstF_name hl
          exact h.1 (List.mem_map.2 ⟨f, h1, h2.trans e.symm⟩)
      rw [this, if_pos e]
    · rw [if_neg e]
      cases lastF r nm <;> simp [e]
theorem nD_kind (x : GV) (xr : List GV) : nD (x :: xr) = if (cleanV x).kind = 0 then [] else [cleanV x] := by
  simp only [nD, isNull_kind, decide_eq_true_eq]
theorem lawKD_p (S : List TD) (q : TL) (k : ByteArray) : PCall Try.prog 8 [pdSch S, qL q, .val (.string k)] (.val (.bool true)) := by
  obtain ⟨b0, c0⟩ := fits6_p S
  obtain ⟨b1, c1⟩ := fits9_p q
  have cF := tFormed_p S (tListR q)
  have cL := tList_p q
  have cS := specResW_p S q.elem
  generalize hwf : (wfS S (tListR q) && orS S (tListR q) zGV) = wf at cF
  refine pcall_of_run Try.func8 rfl Try.ntmps8 rfl (fun X => ?_)
  repeat' (first
    | (show Run _ _ _ _ (Itm.code (Code.region 1 _ _) :: _) _; refine run_hold ?_)
    | refine run_seq ?_
    | (refine k_pick rfl ?_; first | refine k_assignD rfl rfl ?_ | refine k_boxW rfl rfl rfl (by first | rfl | (simp only [cellsD]; rfl)) ?_)
    | refine run_opsEnd ?_
    | refine run_region ?_
    | fail)
  refine ⟨?_⟩
  refine run_stage (mkSta [(2, .dat (.val (.string k))), (3, .ptr 3 0), (4, .ptr 4 0), (25, .dat (.val (.bool (!b0 || !b1 || decide ((2147483647 : Int) < (k.size : Nat))))))] [(3, .box 61 (cellsD (pdSch S))), (4, .box 63 (cellsD (qL q)))]) ?_ ?_
  · repeat' (first
    | (refine k_pick rfl ?_; first | refine k_moveD rfl rfl ?_ | refine k_loadW rfl rfl rfl (by first | rfl | (simp only [cellsD]; rfl)) ?_ | refine k_pickT rfl rfl (by first | rfl | assumption) rfl ?_ | refine k_pickF rfl rfl (by first | rfl | assumption) rfl ?_ | refine k_call rfl (by kernel_rfl) rfl (by first | exact c0 | exact c1) ?_ | refine k_not rfl rfl ?_)
    | refine run_opsEnd ?_
    | refine run_region ?_
    | (refine k_guardY rfl rfl (by first | rfl | assumption) ?_; first | refine k_bin2B rfl rfl rfl rfl ?_ | refine k_call rfl (by kernel_rfl) rfl (by first | exact c0 | exact c1) ?_ | refine k_lenS rfl rfl (by kernel_rfl) ?_ | refine k_not rfl rfl ?_)
    | refine k_guardNF rfl rfl (by first | rfl | assumption) rfl ?_
    | refine k_guardF rfl rfl rfl (fun h => ?_) (fun h => ?_)
    | (first | refine k_moveD rfl rfl ?_ | refine k_loadW rfl rfl rfl (by first | rfl | (simp only [cellsD]; rfl)) ?_)
    | fail)
    all_goals (refine run_stageEnd id ?_; simp_all only [Bool.not_true, Bool.not_false, Bool.true_or, Bool.or_true, Bool.false_or, Bool.or_false]; (refine ⟨?_, ?_, by rfl⟩ <;> repeat' (first | exact trivial | exact ALe.ptr rfl | exact ALe.own rfl | exact ALe.elt rfl | exact BLe.boxD _ _ | exact BLe.row rfl | exact BLe.res | exact ALe.dat (PLe.refl _) | exact CLe.nil | refine And.intro ?_ ?_ | refine ALe.iface ?_ | refine ALe.clo ?_ | refine CLe.cons ?_ ?_ | refine BLe.box ?_ | refine BLe.row ?_ | refine ALe.dat (PLe.of_eq ?_))))
    all_goals trace_state
  cases hb1 : (!b0 || !b1 || decide ((2147483647 : Int) < (k.size : Nat)))
  case true =>
    repeat' (first
    | refine run_seq ?_
    | (refine k_pick rfl ?_; refine k_assignD rfl rfl ?_)
    | refine run_opsEnd ?_
    | refine run_region ?_
    | refine run_condT rfl (by first | rfl | assumption) ?_
    | refine run_retOk (resOk_tmp rfl rfl ?_)
    | fail)
    all_goals exact PLe.refl _
  cases wf
  case false =>
    repeat' (first
    | refine run_seq ?_
    | (refine k_pick rfl ?_; refine k_assignD rfl rfl ?_)
    | refine run_opsEnd ?_
    | refine run_region ?_
    | refine run_condT rfl (by first | rfl | assumption) ?_
    | refine run_condF rfl (by first | rfl | assumption) ?_
    | refine run_skip ?_
    | refine run_retOk (resOk_tmp rfl rfl ?_)
    | refine run_drawC (by kernel_rfl) ?_
    | refine c_nil (And.intro (by kernel_rfl) ?_)
    | refine c_pick (d_loadW rfl rfl rfl (by first | rfl | (simp only [cellsD]; rfl))) ?_
    | refine c_pick (d_call rfl (by kernel_rfl) rfl (by first | exact cL | exact cF)) ?_
    | refine c_pick (d_not rfl rfl) ?_
    | fail)
    all_goals exact PLe.refl _
  simp only [Bool.and_eq_true] at hwf
  have hw := hwf.1
  unfold wfS at hw
  simp only [Bool.and_eq_true, decide_eq_true_eq, List.all_eq_true] at hw
  obtain ⟨⟨hU, hA⟩, hR⟩ := hw
  have hE : wfR S q.elem = true := by
    unfold tListR at hR
    rw [wfR] at hR
    simp only [Bool.and_eq_true, Bool.false_or] at hR
    have h2 := hR.1
    rw [wfA] at h2
    simp only [Bool.and_eq_true] at h2
    have h3 := h2.1.2
    rw [wfLh] at h3
    obtain ⟨e, r, ks⟩ := q
    rw [wfL] at h3
    simp only [Bool.and_eq_true] at h3
    exact h3.1
  have hsr := specR_res (r := q.elem) hU
  by_cases hno : resR S q.elem = none ∨ ∃ a, resR S q.elem = some a ∧ a.maps = []
  · have cK := kdErr_p S q k hno
    rw [pdL_eq] at cK
    have h0 : decide ((([] : List PD).length : Int) = 0) = true := rfl
    have hm0 : decide (((pdMs ((specR S q.elem).getD emptyA).maps).length : Int) = 0) = true := by
      rw [hsr]
      rcases hno with h | ⟨a, h, hm⟩
      · rw [h]; rfl
      · rw [h, Option.getD_some, hm]; simp [pdMs]
    generalize (specR S q.elem).getD emptyA = a at cS hm0
    repeat' (first
    | refine run_seq ?_
    | (refine k_pick rfl ?_; first | refine k_assignD rfl rfl ?_ | refine k_moveD rfl rfl ?_ | refine k_fieldAddrB rfl rfl rfl ?_ | refine k_loadW rfl rfl rfl (by first | rfl | (simp only [cellsD]; rfl)) ?_ | refine k_loadBD rfl rfl rfl (by first | rfl | (simp only [cellsD]; rfl)) ?_ | refine k_bin2B rfl rfl rfl rfl ?_ | refine k_pickT rfl rfl (by first | rfl | assumption) rfl ?_ | refine k_call rfl (by kernel_rfl) rfl (by first | exact cL | exact cF | exact cK | exact cS) ?_ | refine k_extract rfl rfl rfl ?_ | refine k_lenD rfl rfl ?_ | refine k_not rfl rfl ?_ | refine k_storeB rfl rfl rfl rfl rfl ?_ | refine k_alloc rfl rfl ?_)
    | refine run_opsEnd ?_
    | refine run_region ?_
    | refine run_condT rfl (by first | rfl | assumption) ?_
    | refine run_condF rfl (by first | rfl | assumption) ?_
    | (refine k_guardY rfl rfl (by first | rfl | assumption) ?_; first | refine k_moveD rfl rfl ?_ | refine k_bin2B rfl rfl rfl rfl ?_ | refine k_lenD rfl rfl ?_)
    | refine run_skip ?_
    | refine run_retOk (resOk_tmp rfl rfl ?_)
    | refine run_drawC (by kernel_rfl) ?_
    | refine c_nil (And.intro (by kernel_rfl) ?_)
    | refine c_pick (d_loadW rfl rfl rfl (by first | rfl | (simp only [cellsD]; rfl))) ?_
    | refine c_pick (d_call rfl (by kernel_rfl) rfl (by first | exact cL | exact cF | exact cK | exact cS)) ?_
    | refine c_pick (d_not rfl rfl) ?_
    | fail)
    all_goals exact PLe.refl _
  · obtain ⟨a, m, mr, ha, hm⟩ : ∃ a m mr, resR S q.elem = some a ∧ a.maps = m :: mr := by
      cases h : resR S q.elem with
      | none => exact absurd (.inl h) hno
      | some a =>
        cases hm : a.maps with
        | nil => exact absurd (.inr ⟨a, h, hm⟩) hno
        | cons m mr => exact ⟨a, m, mr, rfl, hm⟩
    have hN := wf_fields hA hE (hsr.trans ha) hm
    have cK := kdOk_p S q k ha hm
    rw [pdL_eq] at cK
    have cN := findF_p m k
    rw [firstF_last hN] at cN
    rw [hsr, ha] at cS
    simp only [Option.getD_some, Option.isSome_some] at cS
    have hm0 : decide (((pdMs a.maps).length : Int) = 0) = false := by rw [hm]; unfold pdMs; simp <;> omega
    have hmi : (pdMs a.maps)[(0 : Int).toNat]? = some (qM m) := by rw [hm]; unfold pdMs; rw [pdM_eq]; rfl
    have hm1 : 0 < (pdMs a.maps).length := by rw [hm]; unfold pdMs; simp
    clear hno hsr hwf hU hA hR hE ha
    cases hl : lastF m.fields k with
    | none =>
      rw [hl] at cK cN
      simp only [Option.getD_none, Option.isSome_none] at cK cN
      rw [show nD zTF.dflt = [] from by unfold zTF; simp only [TF.dflt, nD]] at cK
      simp only [pdVs] at cK
      have h0 : decide ((([] : List PD).length : Int) = 0) = true := rfl
      repeat' (first
    | refine run_seq ?_
    | (refine k_pick rfl ?_; first | refine k_indexAddrD rfl rfl rfl (by first | omega | (dsimp only; omega)) (by assumption) ?_ | refine k_assignD rfl rfl ?_ | refine k_moveD rfl rfl ?_ | refine k_fieldAddrB rfl rfl rfl ?_ | refine k_loadW rfl rfl rfl (by first | rfl | (simp only [cellsD]; rfl)) ?_ | refine k_loadBD rfl rfl rfl (by first | rfl | (simp only [cellsD]; rfl)) ?_ | refine k_bin2B rfl rfl rfl rfl ?_ | refine k_pickT rfl rfl (by first | rfl | assumption) rfl ?_ | refine k_call rfl (by kernel_rfl) rfl (by first | exact cL | exact cF | exact cK | exact cS | exact cN) ?_ | refine k_extract rfl rfl rfl ?_ | refine k_lenD rfl rfl ?_ | refine k_not rfl rfl ?_ | refine k_storeB rfl rfl rfl rfl rfl ?_ | refine k_loadD rfl rfl (by first | rfl | (simp only [cellsD]; rfl)) ?_ | refine k_alloc rfl rfl ?_)
    | refine run_opsEnd ?_
    | refine run_region ?_
    | refine run_condT rfl (by first | rfl | assumption) ?_
    | refine run_condF rfl (by first | rfl | assumption) ?_
    | (refine k_guardY rfl rfl (by first | rfl | assumption) ?_; first | refine k_moveD rfl rfl ?_ | refine k_bin2B rfl rfl rfl rfl ?_ | refine k_lenD rfl rfl ?_)
    | refine k_guardNF rfl rfl (by first | rfl | assumption) rfl ?_
    | refine run_skip ?_
    | refine run_retOk (resOk_tmp rfl rfl ?_)
    | refine run_drawC (by kernel_rfl) ?_
    | refine c_nil (And.intro (by kernel_rfl) ?_)
    | refine c_pick (d_loadW rfl rfl rfl (by first | rfl | (simp only [cellsD]; rfl))) ?_
    | refine c_pick (d_call rfl (by kernel_rfl) rfl (by first | exact cL | exact cF | exact cK | exact cS | exact cN)) ?_
    | refine c_pick (d_not rfl rfl) ?_
    | fail)
      all_goals exact PLe.refl _
    | some f =>
      rw [hl] at cK cN
      simp only [Option.getD_some, Option.isSome_some] at cK cN
      cases hd : f.dflt with
      | nil =>
        rw [hd] at cK
        simp only [nD, pdVs] at cK
        have h0 : decide ((([] : List PD).length : Int) = 0) = true := rfl
        have hl0 : decide (((pdVs f.dflt).length : Int) = 0) = true := by rw [hd]; simp [pdVs]
        repeat' (first
    | refine run_seq ?_
    | (refine k_pick rfl ?_; first | refine k_indexAddrD rfl rfl rfl (by first | omega | (dsimp only; omega)) (by assumption) ?_ | refine k_assignD rfl rfl ?_ | refine k_moveD rfl rfl ?_ | refine k_fieldAddrB rfl rfl rfl ?_ | refine k_loadW rfl rfl rfl (by first | rfl | (simp only [cellsD]; rfl)) ?_ | refine k_loadBD rfl rfl rfl (by first | rfl | (simp only [cellsD]; rfl)) ?_ | refine k_bin2B rfl rfl rfl rfl ?_ | refine k_pickT rfl rfl (by first | rfl | assumption) rfl ?_ | refine k_pickF rfl rfl (by first | rfl | assumption) rfl ?_ | refine k_call rfl (by kernel_rfl) rfl (by first | exact cL | exact cF | exact cK | exact cS | exact cN) ?_ | refine k_extract rfl rfl rfl ?_ | refine k_lenD rfl rfl ?_ | refine k_not rfl rfl ?_ | refine k_storeB rfl rfl rfl rfl rfl ?_ | refine k_loadD rfl rfl (by first | rfl | (simp only [cellsD]; rfl)) ?_ | refine k_alloc rfl rfl ?_)
    | refine run_opsEnd ?_
    | refine run_region ?_
    | refine run_condT rfl (by first | rfl | assumption) ?_
    | refine run_condF rfl (by first | rfl | assumption) ?_
    | (refine k_guardY rfl rfl (by first | rfl | assumption) ?_; first | refine k_moveD rfl rfl ?_ | refine k_fieldAddrB rfl rfl rfl ?_ | refine k_loadBD rfl rfl rfl (by first | rfl | (simp only [cellsD]; rfl)) ?_ | refine k_bin2B rfl rfl rfl rfl ?_ | refine k_lenD rfl rfl ?_)
    | refine k_guardNF rfl rfl (by first | rfl | assumption) rfl ?_
    | refine run_skip ?_
    | refine run_retOk (resOk_tmp rfl rfl ?_)
    | refine run_drawC (by kernel_rfl) ?_
    | refine c_nil (And.intro (by kernel_rfl) ?_)
    | refine c_pick (d_loadW rfl rfl rfl (by first | rfl | (simp only [cellsD]; rfl))) ?_
    | refine c_pick (d_call rfl (by kernel_rfl) rfl (by first | exact cL | exact cF | exact cK | exact cS | exact cN)) ?_
    | refine c_pick (d_not rfl rfl) ?_
    | fail)
        all_goals exact PLe.refl _
      | cons x xr =>
        rw [hd, nD_kind] at cK
        have hl0 : decide (((pdVs f.dflt).length : Int) = 0) = false := by rw [hd]; unfold pdVs; simp <;> omega
        have hli : (pdVs f.dflt)[(0 : Int).toNat]? = some (pdV x) := head0V hd
        have cC := clean_p x
        by_cases hk : (cleanV x).kind = 0
        · have hk0 : decide ((cleanV x).kind = 0) = true := by simpa using hk
          rw [if_pos hk] at cK
          simp only [pdVs] at cK
          have h0 : decide ((([] : List PD).length : Int) = 0) = true := rfl
          repeat' (first
    | refine run_seq ?_
    | (refine k_pick rfl ?_; first | refine k_indexAddrD rfl rfl rfl (by first | omega | (dsimp only; omega)) (by assumption) ?_ | refine k_assignD rfl rfl ?_ | refine k_moveD rfl rfl ?_ | refine k_fieldAddrB rfl rfl rfl ?_ | refine k_loadW rfl rfl rfl (by first | rfl | (simp only [pdV_eq, cellsD]; rfl)) ?_ | refine k_loadBD rfl rfl rfl (by first | rfl | (simp only [pdV_eq, cellsD]; rfl)) ?_ | refine k_bin2B rfl rfl rfl rfl ?_ | refine k_pickT rfl rfl (by first | rfl | assumption) rfl ?_ | refine k_pickF rfl rfl (by first | rfl | assumption) rfl ?_ | refine k_call rfl (by kernel_rfl) rfl (by first | exact cL | (simp only [← pdV_eq]; exact cL) | exact cF | (simp only [← pdV_eq]; exact cF) | exact cK | (simp only [← pdV_eq]; exact cK) | exact cS | (simp only [← pdV_eq]; exact cS) | exact cN | (simp only [← pdV_eq]; exact cN) | exact cC | (simp only [← pdV_eq]; exact cC)) ?_ | refine k_extract rfl rfl rfl ?_ | refine k_lenD rfl rfl ?_ | refine k_not rfl rfl ?_ | refine k_storeB rfl rfl rfl rfl rfl ?_ | refine k_loadD rfl rfl (by first | rfl | (simp only [pdV_eq, cellsD]; rfl)) ?_ | refine k_alloc rfl rfl ?_)
    | refine run_opsEnd ?_
    | refine run_region ?_
    | refine run_condT rfl (by first | rfl | assumption) ?_
    | refine run_condF rfl (by first | rfl | assumption) ?_
    | (refine k_guardY rfl rfl (by first | rfl | assumption) ?_; first | refine k_indexAddrD rfl rfl rfl (by first | omega | (dsimp only; omega)) (by assumption) ?_ | refine k_moveD rfl rfl ?_ | refine k_fieldAddrB rfl rfl rfl ?_ | refine k_loadBD rfl rfl rfl (by first | rfl | (simp only [pdV_eq, cellsD]; rfl)) ?_ | refine k_bin2B rfl rfl rfl rfl ?_ | refine k_call rfl (by kernel_rfl) rfl (by first | exact cL | (simp only [← pdV_eq]; exact cL) | exact cF | (simp only [← pdV_eq]; exact cF) | exact cK | (simp only [← pdV_eq]; exact cK) | exact cS | (simp only [← pdV_eq]; exact cS) | exact cN | (simp only [← pdV_eq]; exact cN) | exact cC | (simp only [← pdV_eq]; exact cC)) ?_ | refine k_lenD rfl rfl ?_ | refine k_loadD rfl rfl (by first | rfl | (simp only [pdV_eq, cellsD]; rfl)) ?_ | refine k_fieldD rfl rfl (by first | rfl | exact pdV_eq _) (by first | rfl | (simp only [pdV_eq, cellsD]; rfl)) ?_)
    | refine run_skip ?_
    | refine run_retOk (resOk_tmp rfl rfl ?_)
    | refine run_drawC (by kernel_rfl) ?_
    | refine c_nil (And.intro (by kernel_rfl) ?_)
    | refine c_pick (d_loadW rfl rfl rfl (by first | rfl | (simp only [pdV_eq, cellsD]; rfl))) ?_
    | refine c_pick (d_call rfl (by kernel_rfl) rfl (by first | exact cL | (simp only [← pdV_eq]; exact cL) | exact cF | (simp only [← pdV_eq]; exact cF) | exact cK | (simp only [← pdV_eq]; exact cK) | exact cS | (simp only [← pdV_eq]; exact cS) | exact cN | (simp only [← pdV_eq]; exact cN) | exact cC | (simp only [← pdV_eq]; exact cC))) ?_
    | refine c_pick (d_not rfl rfl) ?_
    | fail)
          all_goals exact PLe.refl _
        · have hk0 : decide ((cleanV x).kind = 0) = false := by simpa using hk
          rw [if_neg hk] at cK
          simp only [pdVs] at cK
          have cV := sameValue_clean x
          have h0 : decide ((([pdV (cleanV x)] : List PD).length : Int) = 1) = true := rfl
          have h1 : ([pdV (cleanV x)] : List PD)[(0 : Int).toNat]? = some (pdV (cleanV x)) := rfl
          repeat' (first
    | refine run_seq ?_
    | (refine k_pick rfl ?_; first | refine k_indexAddrD rfl rfl rfl (by first | omega | (dsimp only; omega)) (by assumption) ?_ | refine k_assignD rfl rfl ?_ | refine k_moveD rfl rfl ?_ | refine k_fieldAddrB rfl rfl rfl ?_ | refine k_loadW rfl rfl rfl (by first | rfl | (simp only [pdV_eq, cellsD]; rfl)) ?_ | refine k_loadBD rfl rfl rfl (by first | rfl | (simp only [pdV_eq, cellsD]; rfl)) ?_ | refine k_bin2B rfl rfl rfl rfl ?_ | refine k_pickF rfl rfl (by first | rfl | assumption) rfl ?_ | refine k_call rfl (by kernel_rfl) rfl (by first | exact cL | (simp only [← pdV_eq]; exact cL) | exact cF | (simp only [← pdV_eq]; exact cF) | exact cK | (simp only [← pdV_eq]; exact cK) | exact cS | (simp only [← pdV_eq]; exact cS) | exact cN | (simp only [← pdV_eq]; exact cN) | exact cC | (simp only [← pdV_eq]; exact cC) | exact cV | (simp only [← pdV_eq]; exact cV)) ?_ | refine k_extract rfl rfl rfl ?_ | refine k_lenD rfl rfl ?_ | refine k_not rfl rfl ?_ | refine k_storeB rfl rfl rfl rfl rfl ?_ | refine k_loadD rfl rfl (by first | rfl | (simp only [pdV_eq, cellsD]; rfl)) ?_ | refine k_alloc rfl rfl ?_)
    | refine run_opsEnd ?_
    | refine run_region ?_
    | refine run_condF rfl (by first | rfl | assumption) ?_
    | (refine k_guardY rfl rfl (by first | rfl | assumption) ?_; first | refine k_indexAddrD rfl rfl rfl (by first | omega | (dsimp only; omega)) (by assumption) ?_ | refine k_fieldAddrB rfl rfl rfl ?_ | refine k_loadBD rfl rfl rfl (by first | rfl | (simp only [pdV_eq, cellsD]; rfl)) ?_ | refine k_bin2B rfl rfl rfl rfl ?_ | refine k_call rfl (by kernel_rfl) rfl (by first | exact cL | (simp only [← pdV_eq]; exact cL) | exact cF | (simp only [← pdV_eq]; exact cF) | exact cK | (simp only [← pdV_eq]; exact cK) | exact cS | (simp only [← pdV_eq]; exact cS) | exact cN | (simp only [← pdV_eq]; exact cN) | exact cC | (simp only [← pdV_eq]; exact cC) | exact cV | (simp only [← pdV_eq]; exact cV)) ?_ | refine k_lenD rfl rfl ?_ | refine k_loadD rfl rfl (by first | rfl | (simp only [pdV_eq, cellsD]; rfl)) ?_ | refine k_fieldD rfl rfl (by first | rfl | exact pdV_eq _) (by first | rfl | (simp only [pdV_eq, cellsD]; rfl)) ?_)
    | refine run_skip ?_
    | refine run_retOk (resOk_tmp rfl rfl ?_)
    | refine run_drawC (by kernel_rfl) ?_
    | refine c_nil (And.intro (by kernel_rfl) ?_)
    | refine c_pick (d_assignD rfl rfl) ?_
    | refine c_pick (d_moveD rfl rfl) ?_
    | refine c_pick (d_loadW rfl rfl rfl (by first | rfl | (simp only [pdV_eq, cellsD]; rfl))) ?_
    | refine c_pick (d_pickT rfl rfl (by first | rfl | assumption) rfl) ?_
    | refine c_pick (d_call rfl (by kernel_rfl) rfl (by first | exact cL | (simp only [← pdV_eq]; exact cL) | exact cF | (simp only [← pdV_eq]; exact cF) | exact cK | (simp only [← pdV_eq]; exact cK) | exact cS | (simp only [← pdV_eq]; exact cS) | exact cN | (simp only [← pdV_eq]; exact cN) | exact cC | (simp only [← pdV_eq]; exact cC) | exact cV | (simp only [← pdV_eq]; exact cV))) ?_
    | refine c_pick (d_not rfl rfl) ?_
    | refine c_pickY rfl (by first | rfl | assumption) (d_indexAddrD rfl rfl rfl (by first | omega | (dsimp only; omega)) (by assumption)) ?_
    | refine c_pickY rfl (by first | rfl | assumption) (d_moveD rfl rfl) ?_
    | refine c_pickY rfl (by first | rfl | assumption) (d_fieldAddrB rfl rfl rfl) ?_
    | refine c_pickY rfl (by first | rfl | assumption) (d_loadBD rfl rfl rfl (by first | rfl | (simp only [pdV_eq, cellsD]; rfl))) ?_
    | refine c_pickY rfl (by first | rfl | assumption) (d_bin2B rfl rfl rfl rfl) ?_
    | refine c_pickY rfl (by first | rfl | assumption) (d_call rfl (by kernel_rfl) rfl (by first | exact cL | (simp only [← pdV_eq]; exact cL) | exact cF | (simp only [← pdV_eq]; exact cF) | exact cK | (simp only [← pdV_eq]; exact cK) | exact cS | (simp only [← pdV_eq]; exact cS) | exact cN | (simp only [← pdV_eq]; exact cN) | exact cC | (simp only [← pdV_eq]; exact cC) | exact cV | (simp only [← pdV_eq]; exact cV))) ?_
    | refine c_pickY rfl (by first | rfl | assumption) (d_lenD rfl rfl) ?_
    | refine c_pickY rfl (by first | rfl | assumption) (d_loadD rfl rfl (by first | rfl | (simp only [pdV_eq, cellsD]; rfl))) ?_
    | fail)
          all_goals exact PLe.refl _
end Go.Proofs.Ytlghpcokbppkfaa
