import Derived.Test.YtlghpcokbppkfaaWfA
/- The reference's words on types: which are well formed (atoms, lists, maps, references). -/
set_option linter.unusedVariables false
namespace Go.Proofs.Ytlghpcokbppkfaa
open Go.RowKit
set_option linter.unusedSimpArgs false
set_option maxRecDepth 10000
set_option maxHeartbeats 4000000

mutual
def wfA (S : List TD) : TA → Bool
  | .mk s l m => okSc s && !decide (partsN (.mk s l m) = 0) && wfLh S l && wfMh S m
def wfLh (S : List TD) : List TL → Bool
  | [] => true
  | q :: _ => wfL S q
def wfL (S : List TD) : TL → Bool
  | .mk e r k => wfR S e && (decide (r = sAto) || (decide (r = sAsc) && itemsF S e k))
def wfMh (S : List TD) : List TM → Bool
  | [] => true
  | m :: _ => wfM S m
def wfM (S : List TD) : TM → Bool
  | .mk fs e r => okMR r && (decide (fs.map (·.name)).Nodup && wfFs S fs) && (noOth e || wfR S e)
def wfFs (S : List TD) : List TF → Bool
  | [] => true
  | f :: r => wfF S f && wfFs S r
def wfF (S : List TD) : TF → Bool
  | .mk _ t _ => wfR S t
def wfR (S : List TD) : TR → Bool
  | .mk b n a rl => (b || wfA S a) && refOk S (.mk b n a rl)
end
theorem wfF_eq (S : List TD) (f : TF) : wfF S f = wfR S f.type := by cases f; rw [wfF]; rfl
theorem wfFs_all (S : List TD) : ∀ l : List TF, wfFs S l = l.all (fun f => wfR S f.type)
  | [] => by rw [wfFs]; rfl
  | f :: r => by rw [wfFs, wfFs_all S r, wfF_eq]; rfl
theorem listFormed_p (S : List TD) (q : TL) (c0 : PCall Try.prog 121 [pdSch S, qR q.elem] (.val (.bool (wfR S q.elem)))) : PCall Try.prog 143 [pdSch S, qL q] (.val (.bool (wfL S q))) := by
  have c1 := itemsF_p S q
  have ew : wfL S q = (wfR S q.elem && (decide (q.rel = sAto) || (decide (q.rel = sAsc) && itemsF S q.elem q.keys))) := by obtain ⟨e, r, k⟩ := q; rw [wfL]; rfl
  rw [ew]
  generalize wfR S q.elem = w at c0
  generalize itemsF S q.elem q.keys = v at c1
  refine pcall_of_run Try.func143 rfl Try.ntmps143 rfl (fun X => ?_)
  cases w
  · repeat' (first
    | refine run_seq ?_
    | (refine k_pick rfl ?_; first | refine k_assignD rfl rfl ?_ | refine k_fieldAddrB rfl rfl rfl ?_ | refine k_loadW rfl rfl rfl (by first | rfl | (simp only [cellsD]; rfl)) ?_ | refine k_loadBD rfl rfl rfl (by first | rfl | (simp only [cellsD]; rfl)) ?_ | refine k_boxW rfl rfl rfl (by first | rfl | (simp only [cellsD]; rfl)) ?_ | refine k_call rfl (by kernel_rfl) rfl (by first | exact c0 | exact c1) ?_ | refine k_not rfl rfl ?_)
    | refine run_opsEnd ?_
    | refine run_region ?_
    | refine run_condT rfl (by first | rfl | assumption) ?_
    | refine run_retOk (resOk_tmp rfl rfl ?_)
    | fail)
    all_goals exact PLe.refl _
  · by_cases h1 : q.rel = sAto
    · have h1' : decide (q.rel = ⟨#[97, 116, 111, 109, 105, 99]⟩) = true := by simpa [sAto] using h1
      repeat' (first
    | refine run_seq ?_
    | (refine k_pick rfl ?_; first | refine k_assignD rfl rfl ?_ | refine k_moveD rfl rfl ?_ | refine k_fieldAddrB rfl rfl rfl ?_ | refine k_loadW rfl rfl rfl (by first | rfl | (simp only [cellsD]; rfl)) ?_ | refine k_loadBD rfl rfl rfl (by first | rfl | (simp only [cellsD]; rfl)) ?_ | refine k_bin2B rfl rfl rfl rfl ?_ | refine k_pickT rfl rfl (by first | rfl | assumption) rfl ?_ | refine k_boxW rfl rfl rfl (by first | rfl | (simp only [cellsD]; rfl)) ?_ | refine k_call rfl (by kernel_rfl) rfl (by first | exact c0 | exact c1) ?_ | refine k_not rfl rfl ?_)
    | refine run_opsEnd ?_
    | refine run_region ?_
    | refine run_condF rfl (by first | rfl | assumption) ?_
    | refine k_guardU rfl rfl rfl ?_
    | refine k_guardNF rfl rfl (by first | rfl | assumption) rfl ?_
    | refine run_skip ?_
    | refine run_retOk (resOk_tmp rfl rfl ?_)
    | fail)
      all_goals exact PLe.of_eq (by simp [h1])
    · have h1' : decide (q.rel = ⟨#[97, 116, 111, 109, 105, 99]⟩) = false := by simpa [sAto] using h1
      by_cases h2 : q.rel = sAsc
      · have h2' : decide (q.rel = ⟨#[97, 115, 115, 111, 99, 105, 97, 116, 105, 118, 101]⟩) = true := by simpa [sAsc] using h2
        repeat' (first
    | refine run_seq ?_
    | (refine k_pick rfl ?_; first | refine k_assignD rfl rfl ?_ | refine k_moveD rfl rfl ?_ | refine k_fieldAddrB rfl rfl rfl ?_ | refine k_loadW rfl rfl rfl (by first | rfl | (simp only [cellsD]; rfl)) ?_ | refine k_loadBD rfl rfl rfl (by first | rfl | (simp only [cellsD]; rfl)) ?_ | refine k_bin2B rfl rfl rfl rfl ?_ | refine k_pickF rfl rfl (by first | rfl | assumption) rfl ?_ | refine k_boxW rfl rfl rfl (by first | rfl | (simp only [cellsD]; rfl)) ?_ | refine k_call rfl (by kernel_rfl) rfl (by first | exact c0 | exact c1) ?_ | refine k_not rfl rfl ?_)
    | refine run_opsEnd ?_
    | refine run_region ?_
    | refine run_condF rfl (by first | rfl | assumption) ?_
    | (refine k_guardY rfl rfl (by first | rfl | assumption) ?_; first | refine k_moveD rfl rfl ?_ | refine k_fieldAddrB rfl rfl rfl ?_ | refine k_loadW rfl rfl rfl (by first | rfl | (simp only [cellsD]; rfl)) ?_ | refine k_loadBD rfl rfl rfl (by first | rfl | (simp only [cellsD]; rfl)) ?_ | refine k_bin2B rfl rfl rfl rfl ?_ | refine k_pickT rfl rfl (by first | rfl | assumption) rfl ?_ | refine k_call rfl (by kernel_rfl) rfl (by first | exact c0 | exact c1) ?_)
    | refine run_skip ?_
    | refine run_retOk (resOk_tmp rfl rfl ?_)
    | fail)
        all_goals exact PLe.of_eq (by rw [h2]; simp; intro h3; exact absurd (h2.trans h3) h1)
      · have h2' : decide (q.rel = ⟨#[97, 115, 115, 111, 99, 105, 97, 116, 105, 118, 101]⟩) = false := by simpa [sAsc] using h2
        repeat' (first
    | refine run_seq ?_
    | (refine k_pick rfl ?_; first | refine k_assignD rfl rfl ?_ | refine k_moveD rfl rfl ?_ | refine k_fieldAddrB rfl rfl rfl ?_ | refine k_loadW rfl rfl rfl (by first | rfl | (simp only [cellsD]; rfl)) ?_ | refine k_loadBD rfl rfl rfl (by first | rfl | (simp only [cellsD]; rfl)) ?_ | refine k_bin2B rfl rfl rfl rfl ?_ | refine k_pickF rfl rfl (by first | rfl | assumption) rfl ?_ | refine k_boxW rfl rfl rfl (by first | rfl | (simp only [cellsD]; rfl)) ?_ | refine k_call rfl (by kernel_rfl) rfl (by first | exact c0 | exact c1) ?_ | refine k_not rfl rfl ?_)
    | refine run_opsEnd ?_
    | refine run_region ?_
    | refine run_condF rfl (by first | rfl | assumption) ?_
    | (refine k_guardY rfl rfl (by first | rfl | assumption) ?_; first | refine k_moveD rfl rfl ?_ | refine k_fieldAddrB rfl rfl rfl ?_ | refine k_loadBD rfl rfl rfl (by first | rfl | (simp only [cellsD]; rfl)) ?_ | refine k_bin2B rfl rfl rfl rfl ?_ | refine k_pickF rfl rfl (by first | rfl | assumption) rfl ?_)
    | refine k_guardNT rfl rfl (by first | rfl | assumption) rfl ?_
    | refine run_skip ?_
    | refine run_retOk (resOk_tmp rfl rfl ?_)
    | fail)
        all_goals exact PLe.of_eq (by simp [h1, h2])
theorem mapFormed_p (S : List TD) (m : TM) (c0 : noOth m.elem = false → PCall Try.prog 121 [pdSch S, qR m.elem] (.val (.bool (wfR S m.elem)))) (cF : ∀ f ∈ m.fields, PCall Try.prog 121 [pdSch S, qR f.type] (.val (.bool (wfR S f.type)))) : PCall Try.prog 144 [pdSch S, qM m] (.val (.bool (wfM S m))) := by
  refine pcall_fits fun hfit => ?_
  have hb1 := (fits_M (show Fits (pdM m) from by rw [pdM_eq]; exact hfit (qM m) (by simp))).2.1
  have hlen := pdFs_len m.fields
  have cN := noOth_p m.elem
  have ew : wfM S m = (okMR m.rel && (decide (m.fields.map (·.name)).Nodup && m.fields.all (fun f => wfR S f.type)) && (noOth m.elem || wfR S m.elem)) := by
    obtain ⟨f, e, r⟩ := m; rw [wfM, wfFs_all]; rfl
  rw [ew]
  refine pcall_of_run Try.func144 rfl Try.ntmps144 rfl (fun X => ?_)
  repeat' (first
    | (show Run _ _ _ _ (Itm.code (Code.region 1 _ _) :: _) _; refine run_hold ?_)
    | refine run_seq ?_
    | (refine k_pick rfl ?_; first | refine k_assignD rfl rfl ?_ | refine k_boxW rfl rfl rfl (by first | rfl | (simp only [cellsD]; rfl)) ?_)
    | refine run_opsEnd ?_
    | refine run_region ?_
    | fail)
  refine ⟨?_⟩
  refine run_stage (mkSta [(2, .ptr 2 0), (3, .ptr 3 0), (21, .dat (.val (.bool (!okMR m.rel))))] [(2, .box 61 (cellsD (pdSch S))), (3, .box 45 (cellsD (qM m)))]) ?_ ?_
  · repeat' (first
    | (refine k_pick rfl ?_; first | refine k_moveD rfl rfl ?_ | refine k_fieldAddrB rfl rfl rfl ?_ | refine k_loadBD rfl rfl rfl (by first | rfl | (simp only [cellsD]; rfl)) ?_ | refine k_bin2B rfl rfl rfl rfl ?_ | refine k_pickT rfl rfl (by first | rfl | assumption) rfl ?_ | refine k_pickF rfl rfl (by first | rfl | assumption) rfl ?_)
    | refine run_opsEnd ?_
    | refine run_region ?_
    | (refine k_guardY rfl rfl (by first | rfl | assumption) ?_; first | refine k_loadBD rfl rfl rfl (by first | rfl | (simp only [cellsD]; rfl)) ?_ | refine k_bin2B rfl rfl rfl rfl ?_)
    | refine k_guardNT rfl rfl (by first | rfl | assumption) rfl ?_
    | refine k_guardT rfl rfl rfl (fun h => ?_) (fun h => ?_)
    | (refine k_fieldAddrB rfl rfl rfl ?_)
    | fail)
    all_goals (refine run_stageEnd id ?_; (refine ⟨?_, ?_, by rfl⟩ <;> repeat' (first | exact trivial | exact ALe.ptr rfl | exact ALe.own rfl | exact ALe.elt rfl | exact BLe.boxD _ _ | exact BLe.row rfl | exact BLe.res | exact ALe.dat (PLe.refl _) | exact CLe.nil | refine And.intro ?_ ?_ | refine ALe.iface ?_ | refine ALe.clo ?_ | refine CLe.cons ?_ ?_ | refine BLe.box ?_ | refine BLe.row ?_ | refine ALe.dat (PLe.of_eq ?_))))
    all_goals (simp_all [okMR, sSep, sAto])
    all_goals exact decide_eq_decide.2 Iff.rfl
  cases hm : okMR m.rel
  case false =>
    repeat' (first
    | refine run_seq ?_
    | (refine k_pick rfl ?_; refine k_assignD rfl rfl ?_)
    | refine run_opsEnd ?_
    | refine run_region ?_
    | refine run_condT rfl (by first | rfl | assumption) ?_
    | refine run_retOk (resOk_tmp rfl rfl ?_)
    | fail)
    all_goals exact PLe.refl _
  repeat' (first
    | refine run_seq ?_
    | (refine k_pick rfl ?_; first | refine k_moveD rfl rfl ?_ | refine k_fieldAddrB rfl rfl rfl ?_ | refine k_loadBD rfl rfl rfl (by first | rfl | (simp only [cellsD]; rfl)) ?_ | refine k_lenD rfl rfl ?_)
    | refine run_opsEnd ?_
    | refine run_region ?_
    | refine run_condF rfl (by first | rfl | assumption) ?_
    | refine run_block ?_
    | refine run_skip ?_
    | fail)
  refine run_loopS (ι := { k : Nat // k ≤ m.fields.length ∧ ((m.fields.take k).map (·.name)).Nodup ∧ ∀ g ∈ m.fields.take k, wfR S g.type = true })
    (fun k => [(2, .ptr 2 0), (3, .ptr 3 0), (23, .dat (.sl 8 144 (pdFs m.fields))), (24, .dat (.val (.int .i64 ((pdFs m.fields).length : Nat)))), (25, .dat (.val (.int .i64 (k.1 : Nat))))])
    (fun k => [(2, .box 61 (cellsD (pdSch S))), (3, .box 45 (cellsD (qM m)))])
    (fun k => m.fields.length - k.1) ⟨0, Nat.zero_le _, by simp, by simp⟩ id ?_ ?_
  · (refine ⟨?_, ?_, by rfl⟩ <;> repeat' (first | exact trivial | exact ALe.ptr rfl | exact ALe.own rfl | exact ALe.elt rfl | exact BLe.boxD _ _ | exact BLe.row rfl | exact BLe.res | exact ALe.dat (PLe.refl _) | exact CLe.nil | refine And.intro ?_ ?_ | refine ALe.iface ?_ | refine ALe.clo ?_ | refine CLe.cons ?_ ?_ | refine BLe.box ?_ | refine BLe.row ?_ | refine ALe.dat (PLe.of_eq ?_)))
  · rintro ⟨k, hkl, hnd, hall⟩
    by_cases hlt : k < m.fields.length
    · have hc : decide ((k : Int) < (((pdFs m.fields).length : Nat) : Int)) = true := by rw [hlen]; simpa using hlt
      obtain ⟨x, hx⟩ : ∃ x, m.fields[k]? = some x := ⟨m.fields[k], by simp [hlt]⟩
      have hi : (pdFs m.fields)[((k : Nat) : Int).toNat]? = some (qF x) := by rw [pdFs_at hx, pdF_eq]; rfl
      have hle : k ≤ (pdFs m.fields).length := by omega
      have hlt2 : (((pdFs m.fields).take k).drop 0).length = k := by simp [hlen]; omega
      repeat' (first
    | refine run_seq ?_
    | (refine k_pick rfl ?_; first | refine k_indexAddrD rfl rfl rfl (by first | omega | (dsimp only; omega)) (by assumption) ?_ | refine k_sliceD (a := 0) (b := k) rfl rfl rfl rfl (Nat.zero_le _) hle ?_ | refine k_assignD rfl rfl ?_ | refine k_moveD rfl rfl ?_ | refine k_fieldAddrB rfl rfl rfl ?_ | refine k_loadBD rfl rfl rfl (by first | rfl | (simp only [cellsD]; rfl)) ?_ | refine k_bin2B rfl rfl rfl rfl ?_ | refine k_lenD rfl rfl ?_ | refine k_storeB rfl rfl rfl rfl rfl ?_ | refine k_loadD rfl rfl (by first | rfl | (simp only [cellsD]; rfl)) ?_ | refine k_alloc rfl rfl ?_)
    | refine run_opsEnd ?_
    | refine run_region ?_
    | refine run_condT rfl (by first | rfl | assumption) ?_
    | refine run_block ?_
    | refine run_skip ?_
    | fail)
      refine run_loopS (ι := { j : Nat // j ≤ k ∧ ∀ g ∈ m.fields.take j, g.name ≠ x.name })
        (fun j => [(2, .ptr 2 0), (3, .ptr 3 0), (6, .ptr 6 0), (23, .dat (.sl 8 144 (pdFs m.fields))), (24, .dat (.val (.int .i64 ((pdFs m.fields).length : Nat)))), (25, .dat (.val (.int .i64 (k : Nat)))), (33, .dat (.sl 8 144 (((pdFs m.fields).take k).drop 0))), (34, .dat (.val (.int .i64 ((((pdFs m.fields).take k).drop 0).length : Nat)))), (35, .dat (.val (.int .i64 (j.1 : Nat))))])
        (fun j => [(2, .box 61 (cellsD (pdSch S))), (3, .box 45 (cellsD (qM m))), (6, .box 49 (cellsD (qF x)))])
        (fun j => k - j.1) ⟨0, Nat.zero_le _, by simp⟩ id ?_ ?_
      · (refine ⟨?_, ?_, by rfl⟩ <;> repeat' (first | exact trivial | exact ALe.ptr rfl | exact ALe.own rfl | exact ALe.elt rfl | exact BLe.boxD _ _ | exact BLe.row rfl | exact BLe.res | exact ALe.dat (PLe.refl _) | exact CLe.nil | refine And.intro ?_ ?_ | refine ALe.iface ?_ | refine ALe.clo ?_ | refine CLe.cons ?_ ?_ | refine BLe.box ?_ | refine BLe.row ?_ | refine ALe.dat (PLe.of_eq ?_)))
      · rintro ⟨j, hjk, hno⟩
        by_cases hjl : j < k
        · have hcj : decide ((j : Int) < (((((pdFs m.fields).take k).drop 0).length : Nat) : Int)) = true := by rw [hlt2]; simpa using hjl
          obtain ⟨y, hy⟩ : ∃ y, m.fields[j]? = some y := ⟨m.fields[j]'(by omega), by simp⟩
          have hij : (((pdFs m.fields).take k).drop 0)[((j : Nat) : Int).toNat]? = some (qF y) := by
            show (((pdFs m.fields).take k).drop 0)[j]? = _
            rw [List.drop_zero, List.getElem?_take, if_pos hjl]
            show (pdFs m.fields)[((j : Nat) : Int).toNat]? = _
            rw [pdFs_at hy, pdF_eq]; rfl
          by_cases hyx : y.name = x.name
          · have hyx' : decide (y.name = x.name) = true := by simpa using hyx
            have hnn : ¬ (m.fields.map (·.name)).Nodup := nodup_not (f := TF.name) hx hy hjl hyx
            repeat' (first
    | refine run_seq ?_
    | (refine k_pick rfl ?_; first | refine k_indexAddrD rfl rfl rfl (by first | omega | (dsimp only; omega)) (by assumption) ?_ | refine k_assignD rfl rfl ?_ | refine k_fieldAddrB rfl rfl rfl ?_ | refine k_loadBD rfl rfl rfl (by first | rfl | (simp only [cellsD]; rfl)) ?_ | refine k_bin2B rfl rfl rfl rfl ?_ | refine k_storeB rfl rfl rfl rfl rfl ?_ | refine k_loadD rfl rfl (by first | rfl | (simp only [cellsD]; rfl)) ?_ | refine k_alloc rfl rfl ?_)
    | refine run_opsEnd ?_
    | refine run_region ?_
    | refine run_condT rfl (by first | rfl | assumption) ?_
    | refine run_block ?_
    | refine run_skip ?_
    | refine run_retOk (resOk_tmp rfl rfl ?_)
    | fail)
            all_goals exact PLe.of_eq (by simp [hnn])
          · have hyx' : decide (y.name = x.name) = false := by simpa using hyx
            repeat' (first
    | refine run_seq ?_
    | (refine k_pick rfl ?_; first | refine k_indexAddrD rfl rfl rfl (by first | omega | (dsimp only; omega)) (by assumption) ?_ | refine k_moveD rfl rfl ?_ | refine k_fieldAddrB rfl rfl rfl ?_ | refine k_loadBD rfl rfl rfl (by first | rfl | (simp only [cellsD]; rfl)) ?_ | refine k_bin2B rfl rfl rfl rfl ?_ | refine k_storeB rfl rfl rfl rfl rfl ?_ | refine k_ariI rfl rfl rfl rfl (by first | omega | (dsimp only; omega)) ?_ | refine k_loadD rfl rfl (by first | rfl | (simp only [cellsD]; rfl)) ?_ | refine k_alloc rfl rfl ?_)
    | refine run_opsEnd ?_
    | refine run_region ?_
    | refine run_condT rfl (by first | rfl | assumption) ?_
    | refine run_condF rfl (by first | rfl | assumption) ?_
    | refine run_block ?_
    | refine run_blkEnd ?_
    | refine run_skip ?_
    | fail)
            refine run_again ?_
            refine ⟨⟨j + 1, by omega, mem_more hy hno hyx⟩, id, by simp only; omega, ?_⟩
            (refine ⟨?_, ?_, by rfl⟩ <;> repeat' (first | exact trivial | exact ALe.ptr rfl | exact ALe.own rfl | exact ALe.elt rfl | exact BLe.boxD _ _ | exact BLe.row rfl | exact BLe.res | exact ALe.dat (PLe.refl _) | exact CLe.nil | refine And.intro ?_ ?_ | refine ALe.iface ?_ | refine ALe.clo ?_ | refine CLe.cons ?_ ?_ | refine BLe.box ?_ | refine BLe.row ?_ | refine ALe.dat (PLe.of_eq ?_)))
        · have hcj : decide ((j : Int) < (((((pdFs m.fields).take k).drop 0).length : Nat) : Int)) = false := by rw [hlt2]; simpa using hjl
          have hjk' : j = k := by omega
          subst hjk'
          have c4 := cF x (List.mem_of_getElem? hx)
          cases hw : wfR S x.type
          · rw [hw] at c4
            repeat' (first
    | refine run_seq ?_
    | (refine k_pick rfl ?_; first | refine k_assignD rfl rfl ?_ | refine k_fieldAddrB rfl rfl rfl ?_ | refine k_loadW rfl rfl rfl (by first | rfl | (simp only [cellsD]; rfl)) ?_ | refine k_loadBD rfl rfl rfl (by first | rfl | (simp only [cellsD]; rfl)) ?_ | refine k_bin2B rfl rfl rfl rfl ?_ | refine k_call rfl (by kernel_rfl) rfl (by first | exact c4) ?_ | refine k_not rfl rfl ?_)
    | refine run_opsEnd ?_
    | refine run_region ?_
    | refine run_condT rfl (by first | rfl | assumption) ?_
    | refine run_condF rfl (by first | rfl | assumption) ?_
    | refine run_exit rfl ?_
    | refine run_retOk (resOk_tmp rfl rfl ?_)
    | fail)
            all_goals (have e := all_not (p := fun f : TF => wfR S f.type) hx hw; exact PLe.of_eq (by rw [e]; simp))
          · rw [hw] at c4
            repeat' (first
    | refine run_seq ?_
    | (refine k_pick rfl ?_; first | refine k_moveD rfl rfl ?_ | refine k_fieldAddrB rfl rfl rfl ?_ | refine k_loadW rfl rfl rfl (by first | rfl | (simp only [cellsD]; rfl)) ?_ | refine k_loadBD rfl rfl rfl (by first | rfl | (simp only [cellsD]; rfl)) ?_ | refine k_bin2B rfl rfl rfl rfl ?_ | refine k_call rfl (by kernel_rfl) rfl (by first | exact c4) ?_ | refine k_not rfl rfl ?_ | refine k_ariI rfl rfl rfl rfl (by first | omega | (dsimp only; omega)) ?_)
    | refine run_opsEnd ?_
    | refine run_region ?_
    | refine run_condF rfl (by first | rfl | assumption) ?_
    | refine run_blkEnd ?_
    | refine run_skip ?_
    | refine run_exit rfl ?_
    | fail)
            refine run_again ?_
            refine ⟨⟨j + 1, by omega, nodup_more (f := TF.name) hx hnd hno, mem_more (p := fun f : TF => wfR S f.type = true) hx hall hw⟩, id, by simp only; omega, ?_⟩
            (refine ⟨?_, ?_, by rfl⟩ <;> repeat' (first | exact trivial | exact ALe.ptr rfl | exact ALe.own rfl | exact ALe.elt rfl | exact BLe.boxD _ _ | exact BLe.row rfl | exact BLe.res | exact ALe.dat (PLe.refl _) | exact CLe.nil | refine And.intro ?_ ?_ | refine ALe.iface ?_ | refine ALe.clo ?_ | refine CLe.cons ?_ ?_ | refine BLe.box ?_ | refine BLe.row ?_ | refine ALe.dat (PLe.of_eq ?_)))
    · have hc : decide ((k : Int) < (((pdFs m.fields).length : Nat) : Int)) = false := by rw [hlen]; simpa using hlt
      have hkk : m.fields.take k = m.fields := List.take_of_length_le (by omega)
      rw [hkk] at hnd hall
      have e1 : (m.fields.all fun f => wfR S f.type) = true := by simpa using hall
      rw [e1]
      simp only [hnd, decide_true, Bool.true_and]
      cases hn : noOth m.elem
      · have c4 := c0 hn
        rw [hn] at cN
        repeat' (first
    | refine run_seq ?_
    | (refine k_pick rfl ?_; first | refine k_assignD rfl rfl ?_ | refine k_moveD rfl rfl ?_ | refine k_fieldAddrB rfl rfl rfl ?_ | refine k_loadBD rfl rfl rfl (by first | rfl | (simp only [cellsD]; rfl)) ?_ | refine k_bin2B rfl rfl rfl rfl ?_ | refine k_pickF rfl rfl (by first | rfl | assumption) rfl ?_ | refine k_call rfl (by kernel_rfl) rfl (by first | exact cN | exact c4) ?_)
    | refine run_opsEnd ?_
    | refine run_region ?_
    | refine run_condF rfl (by first | rfl | assumption) ?_
    | (refine k_guardY rfl rfl (by first | rfl | assumption) ?_; first | refine k_fieldAddrB rfl rfl rfl ?_ | refine k_loadW rfl rfl rfl (by first | rfl | (simp only [cellsD]; rfl)) ?_ | refine k_loadBD rfl rfl rfl (by first | rfl | (simp only [cellsD]; rfl)) ?_ | refine k_call rfl (by kernel_rfl) rfl (by first | exact cN | exact c4) ?_)
    | refine run_exit rfl ?_
    | refine run_retOk (resOk_tmp rfl rfl ?_)
    | fail)
        all_goals exact PLe.refl _
      · rw [hn] at cN
        repeat' (first
    | refine run_seq ?_
    | (refine k_pick rfl ?_; first | refine k_assignD rfl rfl ?_ | refine k_moveD rfl rfl ?_ | refine k_fieldAddrB rfl rfl rfl ?_ | refine k_loadBD rfl rfl rfl (by first | rfl | (simp only [cellsD]; rfl)) ?_ | refine k_bin2B rfl rfl rfl rfl ?_ | refine k_pickT rfl rfl (by first | rfl | assumption) rfl ?_ | refine k_call rfl (by kernel_rfl) rfl (by first | exact cN) ?_)
    | refine run_opsEnd ?_
    | refine run_region ?_
    | refine run_condF rfl (by first | rfl | assumption) ?_
    | refine k_guardNF rfl rfl (by first | rfl | assumption) rfl ?_
    | refine run_exit rfl ?_
    | refine run_retOk (resOk_tmp rfl rfl ?_)
    | fail)
        all_goals exact PLe.refl _
theorem atomFormed_p (S : List TD) (a : TA) (cL : ∀ q r, a.lists = q :: r → PCall Try.prog 143 [pdSch S, qL q] (.val (.bool (wfL S q)))) (cM : ∀ m r, a.maps = m :: r → PCall Try.prog 144 [pdSch S, qM m] (.val (.bool (wfM S m)))) : PCall Try.prog 120 [pdSch S, qA a] (.val (.bool (wfA S a))) := by
  have cP := parts_p a
  have ew : wfA S a = (okSc a.scalar && !decide (partsN a = 0) && wfLh S a.lists && wfMh S a.maps) := by obtain ⟨s, l, m⟩ := a; rw [wfA]; rfl
  rw [ew]
  refine pcall_of_run Try.func120 rfl Try.ntmps120 rfl (fun X => ?_)
  by_cases hsc : okSc a.scalar = true
  case neg =>
    have h1 := hsc
    simp only [okSc, Bool.or_eq_true, decide_eq_true_eq, not_or] at h1
    obtain ⟨⟨⟨⟨a1, a2⟩, a3⟩, a4⟩, a5⟩ := h1
    have b1 : decide (a.scalar = ⟨#[]⟩) = false := by simpa using a1
    have b2 : decide (a.scalar = ⟨#[110, 117, 109, 101, 114, 105, 99]⟩) = false := by simpa [sNum] using a2
    have b3 : decide (a.scalar = ⟨#[115, 116, 114, 105, 110, 103]⟩) = false := by simpa [sStr] using a3
    have b4 : decide (a.scalar = ⟨#[98, 111, 111, 108, 101, 97, 110]⟩) = false := by simpa [sBoo] using a4
    have b5 : decide (a.scalar = ⟨#[117, 110, 116, 121, 112, 101, 100]⟩) = false := by simpa [sUnt] using a5
    repeat' (first
    | refine run_seq ?_
    | (refine k_pick rfl ?_; first | refine k_assignD rfl rfl ?_ | refine k_fieldAddrB rfl rfl rfl ?_ | refine k_loadBD rfl rfl rfl (by first | rfl | (simp only [cellsD]; rfl)) ?_ | refine k_bin2B rfl rfl rfl rfl ?_ | refine k_boxW rfl rfl rfl (by first | rfl | (simp only [cellsD]; rfl)) ?_)
    | refine run_opsEnd ?_
    | refine run_region ?_
    | refine run_condF rfl (by first | rfl | assumption) ?_
    | refine run_block ?_
    | refine run_retOk (resOk_tmp rfl rfl ?_)
    | fail)
    all_goals exact PLe.of_eq (by simp [hsc])
  rw [hsc]
  repeat' (first
    | (show Run _ _ _ _ (Itm.code (Code.region 1 _ _) :: _) _; refine run_hold ?_)
    | refine run_seq ?_
    | (refine k_pick rfl ?_; first | refine k_assignD rfl rfl ?_ | refine k_boxW rfl rfl rfl (by first | rfl | (simp only [cellsD]; rfl)) ?_)
    | refine run_opsEnd ?_
    | refine run_region ?_
    | fail)
  refine ⟨?_⟩
  refine run_region ?_
  (refine k_pick rfl ?_; refine k_fieldAddrB rfl rfl rfl ?_)
  (refine k_pick rfl ?_; refine k_loadBD rfl rfl rfl (by rfl) ?_)
  refine run_opsEnd ?_
  refine run_stage (mkSta [(2, .ptr 2 0), (3, .ptr 3 0)] [(2, .box 61 (cellsD (pdSch S))), (3, .box 41 (cellsD (qA a)))]) ?_ ?_
  · repeat' (first
    | refine run_seq ?_
    | (refine k_pick rfl ?_; first | refine k_assignD rfl rfl ?_ | refine k_bin2B rfl rfl rfl rfl ?_)
    | refine run_opsEnd ?_
    | refine run_region ?_
    | refine run_condT rfl (by first | rfl | assumption) ?_
    | refine run_cond rfl (fun h => ?_) (fun h => ?_)
    | refine run_block ?_
    | refine run_blkEnd ?_
    | refine run_skip ?_
    | fail)
    all_goals first
      | (exfalso; simp_all [okSc, sNum, sStr, sBoo, sUnt]; done)
      | (refine run_stageEnd id ?_; (refine ⟨?_, ?_, by rfl⟩ <;> repeat' (first | exact trivial | exact ALe.ptr rfl | exact ALe.own rfl | exact ALe.elt rfl | exact BLe.boxD _ _ | exact BLe.row rfl | exact BLe.res | exact ALe.dat (PLe.refl _) | exact CLe.nil | refine And.intro ?_ ?_ | refine ALe.iface ?_ | refine ALe.clo ?_ | refine CLe.cons ?_ ?_ | refine BLe.box ?_ | refine BLe.row ?_ | refine ALe.dat (PLe.of_eq ?_))))
  by_cases hp : partsN a = 0
  · have hp0 : decide (((partsN a : Nat) : Int) = 0) = true := by simpa using hp
    repeat' (first
    | refine run_seq ?_
    | (refine k_pick rfl ?_; refine k_assignD rfl rfl ?_)
    | refine run_opsEnd ?_
    | refine run_region ?_
    | refine run_condT rfl (by first | rfl | assumption) ?_
    | refine run_retOk (resOk_tmp rfl rfl ?_)
    | refine run_drawC (by kernel_rfl) ?_
    | refine c_nil (And.intro (by kernel_rfl) ?_)
    | refine c_pick (d_moveD rfl rfl) ?_
    | refine c_pick (d_loadW rfl rfl rfl (by first | rfl | (simp only [cellsD]; rfl))) ?_
    | refine c_pick (d_bin2B rfl rfl rfl rfl) ?_
    | refine c_pick (d_pickT rfl rfl (by first | rfl | assumption) rfl) ?_
    | refine c_pick (d_call rfl (by kernel_rfl) rfl (by first | exact cP)) ?_
    | refine c_passU rfl rfl ?_
    | refine c_passF rfl (by first | rfl | assumption) rfl ?_
    | fail)
    all_goals exact PLe.of_eq (by simp [hp])
  have hp0 : decide (((partsN a : Nat) : Int) = 0) = false := by simpa using hp
  cases hm : a.maps with
  | nil =>
    have hm0 : decide (((pdMs a.maps).length : Int) = 0) = true := by rw [hm]; simp [pdMs]
    cases hl : a.lists with
    | nil =>
      have hl0 : decide ((0 : Int) < ((pdLs a.lists).length : Nat)) = false := by rw [hl]; simp [pdLs]
      repeat' (first
    | refine run_seq ?_
    | refine run_condF rfl (by first | rfl | assumption) ?_
    | refine run_skip ?_
    | refine run_retOk (resOk_tmp rfl rfl ?_)
    | refine run_drawC (by kernel_rfl) ?_
    | refine c_nil (And.intro (by kernel_rfl) ?_)
    | refine c_pick (d_assignD rfl rfl) ?_
    | refine c_pick (d_moveD rfl rfl) ?_
    | refine c_pick (d_fieldAddrB rfl rfl rfl) ?_
    | refine c_pick (d_loadW rfl rfl rfl (by first | rfl | (simp only [cellsD]; rfl))) ?_
    | refine c_pick (d_loadBD rfl rfl rfl (by first | rfl | (simp only [cellsD]; rfl))) ?_
    | refine c_pick (d_bin2B rfl rfl rfl rfl) ?_
    | refine c_pick (d_pickT rfl rfl (by first | rfl | assumption) rfl) ?_
    | refine c_pick (d_pickF rfl rfl (by first | rfl | assumption) rfl) ?_
    | refine c_pick (d_call rfl (by kernel_rfl) rfl (by first | exact cP)) ?_
    | refine c_pick (d_lenD rfl rfl) ?_
    | refine c_passT rfl (by first | rfl | assumption) rfl ?_
    | refine c_passF rfl (by first | rfl | assumption) rfl ?_
    | refine c_pickY rfl (by first | rfl | assumption) (d_moveD rfl rfl) ?_
    | refine c_pickY rfl (by first | rfl | assumption) (d_fieldAddrB rfl rfl rfl) ?_
    | refine c_pickY rfl (by first | rfl | assumption) (d_loadBD rfl rfl rfl (by first | rfl | (simp only [cellsD]; rfl))) ?_
    | refine c_pickY rfl (by first | rfl | assumption) (d_bin2B rfl rfl rfl rfl) ?_
    | refine c_pickY rfl (by first | rfl | assumption) (d_pickF rfl rfl (by first | rfl | assumption) rfl) ?_
    | refine c_pickY rfl (by first | rfl | assumption) (d_lenD rfl rfl) ?_
    | fail)
      all_goals exact PLe.of_eq (by simp [hp, hm, hl, wfLh, wfMh])
    | cons q r =>
      have hl0 : decide ((0 : Int) < ((pdLs a.lists).length : Nat)) = true := by rw [hl]; unfold pdLs; simp <;> omega
      have hli : (pdLs a.lists)[(0 : Int).toNat]? = some (qL q) := by rw [hl]; unfold pdLs; rw [pdL_eq]; rfl
      have c1 := cL q r hl
      cases hw : wfL S q <;> rw [hw] at c1
      · repeat' (first
    | refine run_seq ?_
    | (refine k_pick rfl ?_; refine k_assignD rfl rfl ?_)
    | refine run_opsEnd ?_
    | refine run_region ?_
    | refine run_condT rfl (by first | rfl | assumption) ?_
    | refine run_retOk (resOk_tmp rfl rfl ?_)
    | refine run_drawC (by kernel_rfl) ?_
    | refine c_nil (And.intro (by kernel_rfl) ?_)
    | refine c_pick (d_moveD rfl rfl) ?_
    | refine c_pick (d_loadW rfl rfl rfl (by first | rfl | (simp only [cellsD]; rfl))) ?_
    | refine c_pick (d_bin2B rfl rfl rfl rfl) ?_
    | refine c_pick (d_pickF rfl rfl (by first | rfl | assumption) rfl) ?_
    | refine c_pick (d_call rfl (by kernel_rfl) rfl (by first | exact cP | exact c1)) ?_
    | refine c_pickY rfl (by first | rfl | assumption) (d_indexAddrD rfl rfl rfl (by first | omega | (dsimp only; omega)) (by assumption)) ?_
    | refine c_pickY rfl (by first | rfl | assumption) (d_moveD rfl rfl) ?_
    | refine c_pickY rfl (by first | rfl | assumption) (d_fieldAddrB rfl rfl rfl) ?_
    | refine c_pickY rfl (by first | rfl | assumption) (d_loadW rfl rfl rfl (by first | rfl | (simp only [cellsD]; rfl))) ?_
    | refine c_pickY rfl (by first | rfl | assumption) (d_loadBD rfl rfl rfl (by first | rfl | (simp only [cellsD]; rfl))) ?_
    | refine c_pickY rfl (by first | rfl | assumption) (d_bin2B rfl rfl rfl rfl) ?_
    | refine c_pickY rfl (by first | rfl | assumption) (d_pickT rfl rfl (by first | rfl | assumption) rfl) ?_
    | refine c_pickY rfl (by first | rfl | assumption) (d_call rfl (by kernel_rfl) rfl (by first | exact cP | exact c1)) ?_
    | refine c_pickY rfl (by first | rfl | assumption) (d_lenD rfl rfl) ?_
    | refine c_pickY rfl (by first | rfl | assumption) (d_not rfl rfl) ?_
    | refine c_pickY rfl (by first | rfl | assumption) (d_loadD rfl rfl (by first | rfl | (simp only [cellsD]; rfl))) ?_
    | fail)
        all_goals exact PLe.of_eq (by simp [hp, hm, hl, wfLh, wfMh, hw])
      · repeat' (first
    | refine run_seq ?_
    | refine run_condF rfl (by first | rfl | assumption) ?_
    | refine run_skip ?_
    | refine run_retOk (resOk_tmp rfl rfl ?_)
    | refine run_drawC (by kernel_rfl) ?_
    | refine c_nil (And.intro (by kernel_rfl) ?_)
    | refine c_pick (d_assignD rfl rfl) ?_
    | refine c_pick (d_moveD rfl rfl) ?_
    | refine c_pick (d_fieldAddrB rfl rfl rfl) ?_
    | refine c_pick (d_loadW rfl rfl rfl (by first | rfl | (simp only [cellsD]; rfl))) ?_
    | refine c_pick (d_loadBD rfl rfl rfl (by first | rfl | (simp only [cellsD]; rfl))) ?_
    | refine c_pick (d_bin2B rfl rfl rfl rfl) ?_
    | refine c_pick (d_pickT rfl rfl (by first | rfl | assumption) rfl) ?_
    | refine c_pick (d_pickF rfl rfl (by first | rfl | assumption) rfl) ?_
    | refine c_pick (d_call rfl (by kernel_rfl) rfl (by first | exact cP | exact c1)) ?_
    | refine c_pick (d_lenD rfl rfl) ?_
    | refine c_passF rfl (by first | rfl | assumption) rfl ?_
    | refine c_pickY rfl (by first | rfl | assumption) (d_indexAddrD rfl rfl rfl (by first | omega | (dsimp only; omega)) (by assumption)) ?_
    | refine c_pickY rfl (by first | rfl | assumption) (d_moveD rfl rfl) ?_
    | refine c_pickY rfl (by first | rfl | assumption) (d_fieldAddrB rfl rfl rfl) ?_
    | refine c_pickY rfl (by first | rfl | assumption) (d_loadW rfl rfl rfl (by first | rfl | (simp only [cellsD]; rfl))) ?_
    | refine c_pickY rfl (by first | rfl | assumption) (d_loadBD rfl rfl rfl (by first | rfl | (simp only [cellsD]; rfl))) ?_
    | refine c_pickY rfl (by first | rfl | assumption) (d_bin2B rfl rfl rfl rfl) ?_
    | refine c_pickY rfl (by first | rfl | assumption) (d_pickT rfl rfl (by first | rfl | assumption) rfl) ?_
    | refine c_pickY rfl (by first | rfl | assumption) (d_call rfl (by kernel_rfl) rfl (by first | exact cP | exact c1)) ?_
    | refine c_pickY rfl (by first | rfl | assumption) (d_lenD rfl rfl) ?_
    | refine c_pickY rfl (by first | rfl | assumption) (d_not rfl rfl) ?_
    | refine c_pickY rfl (by first | rfl | assumption) (d_loadD rfl rfl (by first | rfl | (simp only [cellsD]; rfl))) ?_
    | fail)
        all_goals exact PLe.of_eq (by simp [hp, hm, hl, wfLh, wfMh, hw])
  | cons m mr =>
    have hm0 : decide (((pdMs a.maps).length : Int) = 0) = false := by rw [hm]; unfold pdMs; simp <;> omega
    have hmi : (pdMs a.maps)[(0 : Int).toNat]? = some (qM m) := by rw [hm]; unfold pdMs; rw [pdM_eq]; rfl
    have c2 := cM m mr hm
    cases hl : a.lists with
    | nil =>
      have hl0 : decide ((0 : Int) < ((pdLs a.lists).length : Nat)) = false := by rw [hl]; simp [pdLs]
      repeat' (first
    | refine run_seq ?_
    | refine run_condF rfl (by first | rfl | assumption) ?_
    | refine run_skip ?_
    | refine run_retOk (resOk_tmp rfl rfl ?_)
    | refine run_drawC (by kernel_rfl) ?_
    | refine c_nil (And.intro (by kernel_rfl) ?_)
    | refine c_pick (d_assignD rfl rfl) ?_
    | refine c_pick (d_moveD rfl rfl) ?_
    | refine c_pick (d_fieldAddrB rfl rfl rfl) ?_
    | refine c_pick (d_loadW rfl rfl rfl (by first | rfl | (simp only [cellsD]; rfl))) ?_
    | refine c_pick (d_loadBD rfl rfl rfl (by first | rfl | (simp only [cellsD]; rfl))) ?_
    | refine c_pick (d_bin2B rfl rfl rfl rfl) ?_
    | refine c_pick (d_pickF rfl rfl (by first | rfl | assumption) rfl) ?_
    | refine c_pick (d_call rfl (by kernel_rfl) rfl (by first | exact cP | exact c2)) ?_
    | refine c_pick (d_lenD rfl rfl) ?_
    | refine c_passT rfl (by first | rfl | assumption) rfl ?_
    | refine c_pickY rfl (by first | rfl | assumption) (d_indexAddrD rfl rfl rfl (by first | omega | (dsimp only; omega)) (by assumption)) ?_
    | refine c_pickY rfl (by first | rfl | assumption) (d_moveD rfl rfl) ?_
    | refine c_pickY rfl (by first | rfl | assumption) (d_fieldAddrB rfl rfl rfl) ?_
    | refine c_pickY rfl (by first | rfl | assumption) (d_loadW rfl rfl rfl (by first | rfl | (simp only [cellsD]; rfl))) ?_
    | refine c_pickY rfl (by first | rfl | assumption) (d_loadBD rfl rfl rfl (by first | rfl | (simp only [cellsD]; rfl))) ?_
    | refine c_pickY rfl (by first | rfl | assumption) (d_bin2B rfl rfl rfl rfl) ?_
    | refine c_pickY rfl (by first | rfl | assumption) (d_pickF rfl rfl (by first | rfl | assumption) rfl) ?_
    | refine c_pickY rfl (by first | rfl | assumption) (d_call rfl (by kernel_rfl) rfl (by first | exact cP | exact c2)) ?_
    | refine c_pickY rfl (by first | rfl | assumption) (d_lenD rfl rfl) ?_
    | refine c_pickY rfl (by first | rfl | assumption) (d_loadD rfl rfl (by first | rfl | (simp only [cellsD]; rfl))) ?_
    | fail)
      all_goals exact PLe.of_eq (by simp [hp, hm, hl, wfLh, wfMh])
    | cons q r =>
      have hl0 : decide ((0 : Int) < ((pdLs a.lists).length : Nat)) = true := by rw [hl]; unfold pdLs; simp <;> omega
      have hli : (pdLs a.lists)[(0 : Int).toNat]? = some (qL q) := by rw [hl]; unfold pdLs; rw [pdL_eq]; rfl
      have c1 := cL q r hl
      cases hw : wfL S q <;> rw [hw] at c1
      · repeat' (first
    | refine run_seq ?_
    | (refine k_pick rfl ?_; refine k_assignD rfl rfl ?_)
    | refine run_opsEnd ?_
    | refine run_region ?_
    | refine run_condT rfl (by first | rfl | assumption) ?_
    | refine run_retOk (resOk_tmp rfl rfl ?_)
    | refine run_drawC (by kernel_rfl) ?_
    | refine c_nil (And.intro (by kernel_rfl) ?_)
    | refine c_pick (d_moveD rfl rfl) ?_
    | refine c_pick (d_loadW rfl rfl rfl (by first | rfl | (simp only [cellsD]; rfl))) ?_
    | refine c_pick (d_bin2B rfl rfl rfl rfl) ?_
    | refine c_pick (d_pickF rfl rfl (by first | rfl | assumption) rfl) ?_
    | refine c_pick (d_call rfl (by kernel_rfl) rfl (by first | exact cP | exact c1 | exact c2)) ?_
    | refine c_pickY rfl (by first | rfl | assumption) (d_indexAddrD rfl rfl rfl (by first | omega | (dsimp only; omega)) (by assumption)) ?_
    | refine c_pickY rfl (by first | rfl | assumption) (d_moveD rfl rfl) ?_
    | refine c_pickY rfl (by first | rfl | assumption) (d_fieldAddrB rfl rfl rfl) ?_
    | refine c_pickY rfl (by first | rfl | assumption) (d_loadW rfl rfl rfl (by first | rfl | (simp only [cellsD]; rfl))) ?_
    | refine c_pickY rfl (by first | rfl | assumption) (d_loadBD rfl rfl rfl (by first | rfl | (simp only [cellsD]; rfl))) ?_
    | refine c_pickY rfl (by first | rfl | assumption) (d_bin2B rfl rfl rfl rfl) ?_
    | refine c_pickY rfl (by first | rfl | assumption) (d_pickT rfl rfl (by first | rfl | assumption) rfl) ?_
    | refine c_pickY rfl (by first | rfl | assumption) (d_call rfl (by kernel_rfl) rfl (by first | exact cP | exact c1 | exact c2)) ?_
    | refine c_pickY rfl (by first | rfl | assumption) (d_lenD rfl rfl) ?_
    | refine c_pickY rfl (by first | rfl | assumption) (d_not rfl rfl) ?_
    | refine c_pickY rfl (by first | rfl | assumption) (d_loadD rfl rfl (by first | rfl | (simp only [cellsD]; rfl))) ?_
    | fail)
        all_goals exact PLe.of_eq (by simp [hp, hm, hl, wfLh, wfMh, hw])
      · repeat' (first
    | refine run_seq ?_
    | refine run_condF rfl (by first | rfl | assumption) ?_
    | refine run_skip ?_
    | refine run_retOk (resOk_tmp rfl rfl ?_)
    | refine run_drawC (by kernel_rfl) ?_
    | refine c_nil (And.intro (by kernel_rfl) ?_)
    | refine c_pick (d_assignD rfl rfl) ?_
    | refine c_pick (d_moveD rfl rfl) ?_
    | refine c_pick (d_fieldAddrB rfl rfl rfl) ?_
    | refine c_pick (d_loadW rfl rfl rfl (by first | rfl | (simp only [cellsD]; rfl))) ?_
    | refine c_pick (d_loadBD rfl rfl rfl (by first | rfl | (simp only [cellsD]; rfl))) ?_
    | refine c_pick (d_bin2B rfl rfl rfl rfl) ?_
    | refine c_pick (d_pickF rfl rfl (by first | rfl | assumption) rfl) ?_
    | refine c_pick (d_call rfl (by kernel_rfl) rfl (by first | exact cP | exact c1 | exact c2)) ?_
    | refine c_pick (d_lenD rfl rfl) ?_
    | refine c_pickY rfl (by first | rfl | assumption) (d_indexAddrD rfl rfl rfl (by first | omega | (dsimp only; omega)) (by assumption)) ?_
    | refine c_pickY rfl (by first | rfl | assumption) (d_moveD rfl rfl) ?_
    | refine c_pickY rfl (by first | rfl | assumption) (d_fieldAddrB rfl rfl rfl) ?_
    | refine c_pickY rfl (by first | rfl | assumption) (d_loadW rfl rfl rfl (by first | rfl | (simp only [cellsD]; rfl))) ?_
    | refine c_pickY rfl (by first | rfl | assumption) (d_loadBD rfl rfl rfl (by first | rfl | (simp only [cellsD]; rfl))) ?_
    | refine c_pickY rfl (by first | rfl | assumption) (d_bin2B rfl rfl rfl rfl) ?_
    | refine c_pickY rfl (by first | rfl | assumption) (d_pickT rfl rfl (by first | rfl | assumption) rfl) ?_
    | refine c_pickY rfl (by first | rfl | assumption) (d_call rfl (by kernel_rfl) rfl (by first | exact cP | exact c1 | exact c2)) ?_
    | refine c_pickY rfl (by first | rfl | assumption) (d_lenD rfl rfl) ?_
    | refine c_pickY rfl (by first | rfl | assumption) (d_not rfl rfl) ?_
    | refine c_pickY rfl (by first | rfl | assumption) (d_loadD rfl rfl (by first | rfl | (simp only [cellsD]; rfl))) ?_
    | fail)
        all_goals exact PLe.of_eq (by simp [hp, hm, hl, wfLh, wfMh, hw])
end Go.Proofs.Ytlghpcokbppkfaa

/- The reference's words on types: which are well formed (references). -/
set_option linter.unusedVariables false
namespace Go.Proofs.Ytlghpcokbppkfaa
open Go.RowKit
set_option linter.unusedSimpArgs false
set_option maxRecDepth 10000
set_option maxHeartbeats 4000000

theorem setRel_some {a a' : TA} {rel : ByteArray} (h : setRel a rel = some a') : a'.maps ≠ [] ∨ a'.lists ≠ [] := by
  obtain ⟨sc, ls, ms⟩ := a
  cases ms with
  | cons m mr => cases h; exact .inl (by simp [TA.maps])
  | nil =>
    cases ls with
    | cons q lr => cases h; exact .inr (by simp [TA.lists])
    | nil => cases h
theorem refFormed_p (S : List TD) (r : TR) (cA : r.named = false → PCall Try.prog 120 [pdSch S, qA r.atom] (.val (.bool (wfA S r.atom)))) : PCall Try.prog 121 [pdSch S, qR r] (.val (.bool (wfR S r))) := by
  have c1 := specResW_p S r
  have ew : wfR S r = ((r.named || wfA S r.atom) && refOk S r) := by obtain ⟨b, n, a, rl⟩ := r; rw [wfR]; rfl
  rw [ew]
  refine pcall_of_run Try.func121 rfl Try.ntmps121 rfl (fun X => ?_)
  repeat' (first
    | (show Run _ _ _ _ (Itm.code (Code.region 1 _ _) :: _) _; refine run_hold ?_)
    | refine run_seq ?_
    | (refine k_pick rfl ?_; first | refine k_assignD rfl rfl ?_ | refine k_boxW rfl rfl rfl (by first | rfl | (simp only [cellsD]; rfl)) ?_)
    | refine run_opsEnd ?_
    | refine run_region ?_
    | fail)
  refine ⟨?_⟩
  refine run_stage (mkSta [(2, .ptr 2 0), (3, .ptr 3 0), (16, .dat (.val (.bool (!(r.named || wfA S r.atom)))))] [(2, .box 61 (cellsD (pdSch S))), (3, .box 43 (cellsD (qR r)))]) ?_ ?_
  · by_cases hb : r.named = true
    · have hb' : (!r.named) = false := by simp [hb]
      repeat' (first
    | (refine k_pick rfl ?_; first | refine k_moveD rfl rfl ?_ | refine k_fieldAddrB rfl rfl rfl ?_ | refine k_loadBD rfl rfl rfl (by first | rfl | (simp only [cellsD]; rfl)) ?_ | refine k_pickF rfl rfl (by first | rfl | assumption) rfl ?_ | refine k_not rfl rfl ?_)
    | refine run_opsEnd ?_
    | refine run_region ?_
    | refine k_guardNT rfl rfl (by first | rfl | assumption) rfl ?_
    | fail)
      all_goals (refine run_stageEnd id ?_; (refine ⟨?_, ?_, by rfl⟩ <;> repeat' (first | exact trivial | exact ALe.ptr rfl | exact ALe.own rfl | exact ALe.elt rfl | exact BLe.boxD _ _ | exact BLe.row rfl | exact BLe.res | exact ALe.dat (PLe.refl _) | exact CLe.nil | refine And.intro ?_ ?_ | refine ALe.iface ?_ | refine ALe.clo ?_ | refine CLe.cons ?_ ?_ | refine BLe.box ?_ | refine BLe.row ?_ | refine ALe.dat (PLe.of_eq ?_))))
      all_goals simp [hb]
    · have c2 := cA (by simpa using hb)
      have hb' : (!r.named) = true := by simpa using hb
      repeat' (first
    | (refine k_pick rfl ?_; first | refine k_moveD rfl rfl ?_ | refine k_fieldAddrB rfl rfl rfl ?_ | refine k_loadBD rfl rfl rfl (by first | rfl | (simp only [cellsD]; rfl)) ?_ | refine k_pickT rfl rfl (by first | rfl | assumption) rfl ?_ | refine k_not rfl rfl ?_)
    | refine run_opsEnd ?_
    | refine run_region ?_
    | (refine k_guardY rfl rfl (by first | rfl | assumption) ?_; first | refine k_fieldAddrB rfl rfl rfl ?_ | refine k_loadW rfl rfl rfl (by first | rfl | (simp only [cellsD]; rfl)) ?_ | refine k_loadBD rfl rfl rfl (by first | rfl | (simp only [cellsD]; rfl)) ?_ | refine k_call rfl (by kernel_rfl) rfl (by first | exact c2) ?_ | refine k_not rfl rfl ?_)
    | fail)
      all_goals (refine run_stageEnd id ?_; (refine ⟨?_, ?_, by rfl⟩ <;> repeat' (first | exact trivial | exact ALe.ptr rfl | exact ALe.own rfl | exact ALe.elt rfl | exact BLe.boxD _ _ | exact BLe.row rfl | exact BLe.res | exact ALe.dat (PLe.refl _) | exact CLe.nil | refine And.intro ?_ ?_ | refine ALe.iface ?_ | refine ALe.clo ?_ | refine CLe.cons ?_ ?_ | refine BLe.box ?_ | refine BLe.row ?_ | refine ALe.dat (PLe.of_eq ?_))))
      all_goals simp_all
  cases hw : (r.named || wfA S r.atom)
  case false =>
    repeat' (first
    | refine run_seq ?_
    | (refine k_pick rfl ?_; refine k_assignD rfl rfl ?_)
    | refine run_opsEnd ?_
    | refine run_region ?_
    | refine run_condT rfl (by first | rfl | assumption) ?_
    | refine run_retOk (resOk_tmp rfl rfl ?_)
    | fail)
    all_goals exact PLe.refl _
  unfold refOk
  cases hr : specR S r with
  | none =>
    rw [hr] at c1
    simp only [Option.getD_none, Option.isSome_none] at c1
    repeat' (first
    | refine run_seq ?_
    | (refine k_pick rfl ?_; first | refine k_assignD rfl rfl ?_ | refine k_moveD rfl rfl ?_ | refine k_loadW rfl rfl rfl (by first | rfl | (simp only [cellsD]; rfl)) ?_ | refine k_pickT rfl rfl (by first | rfl | assumption) rfl ?_ | refine k_call rfl (by kernel_rfl) rfl (by first | exact c1) ?_ | refine k_extract rfl rfl rfl ?_ | refine k_not rfl rfl ?_ | refine k_storeB rfl rfl rfl rfl rfl ?_ | refine k_alloc rfl rfl ?_)
    | refine run_opsEnd ?_
    | refine run_region ?_
    | refine run_condT rfl (by first | rfl | assumption) ?_
    | refine run_condF rfl (by first | rfl | assumption) ?_
    | refine k_guardNF rfl rfl (by first | rfl | assumption) rfl ?_
    | refine run_skip ?_
    | refine run_retOk (resOk_tmp rfl rfl ?_)
    | fail)
    all_goals exact PLe.of_eq (by simp)
  | some a =>
    rw [hr] at c1
    simp only [Option.getD_some, Option.isSome_some] at c1
    have c2 := parts_p a
    by_cases hp : partsN a = 0
    · have hp0 : decide (((partsN a : Nat) : Int) = 0) = true := by simpa using hp
      repeat' (first
    | refine run_seq ?_
    | (refine k_pick rfl ?_; first | refine k_assignD rfl rfl ?_ | refine k_moveD rfl rfl ?_ | refine k_loadW rfl rfl rfl (by first | rfl | (simp only [cellsD]; rfl)) ?_ | refine k_pickF rfl rfl (by first | rfl | assumption) rfl ?_ | refine k_call rfl (by kernel_rfl) rfl (by first | exact c1 | exact c2) ?_ | refine k_extract rfl rfl rfl ?_ | refine k_not rfl rfl ?_ | refine k_storeB rfl rfl rfl rfl rfl ?_ | refine k_alloc rfl rfl ?_)
    | refine run_opsEnd ?_
    | refine run_region ?_
    | refine run_condT rfl (by first | rfl | assumption) ?_
    | refine run_condF rfl (by first | rfl | assumption) ?_
    | (refine k_guardY rfl rfl (by first | rfl | assumption) ?_; first | refine k_loadBD rfl rfl rfl (by first | rfl | (simp only [cellsD]; rfl)) ?_ | refine k_bin2B rfl rfl rfl rfl ?_ | refine k_call rfl (by kernel_rfl) rfl (by first | exact c1 | exact c2) ?_)
    | refine run_skip ?_
    | refine run_retOk (resOk_tmp rfl rfl ?_)
    | fail)
      all_goals exact PLe.of_eq (by simp [hp])
    have hp0 : decide (((partsN a : Nat) : Int) = 0) = false := by simpa using hp
    by_cases he : r.rel = ⟨#[]⟩
    · have he0 : decide (r.rel = ⟨#[]⟩) = true := by simpa using he
      repeat' (first
    | refine run_seq ?_
    | (refine k_pick rfl ?_; first | refine k_assignD rfl rfl ?_ | refine k_moveD rfl rfl ?_ | refine k_fieldAddrB rfl rfl rfl ?_ | refine k_loadW rfl rfl rfl (by first | rfl | (simp only [cellsD]; rfl)) ?_ | refine k_loadBD rfl rfl rfl (by first | rfl | (simp only [cellsD]; rfl)) ?_ | refine k_bin2B rfl rfl rfl rfl ?_ | refine k_pickF rfl rfl (by first | rfl | assumption) rfl ?_ | refine k_call rfl (by kernel_rfl) rfl (by first | exact c1 | exact c2) ?_ | refine k_extract rfl rfl rfl ?_ | refine k_not rfl rfl ?_ | refine k_storeB rfl rfl rfl rfl rfl ?_ | refine k_alloc rfl rfl ?_)
    | refine run_opsEnd ?_
    | refine run_region ?_
    | refine run_condT rfl (by first | rfl | assumption) ?_
    | refine run_condF rfl (by first | rfl | assumption) ?_
    | (refine k_guardY rfl rfl (by first | rfl | assumption) ?_; first | refine k_loadBD rfl rfl rfl (by first | rfl | (simp only [cellsD]; rfl)) ?_ | refine k_bin2B rfl rfl rfl rfl ?_ | refine k_call rfl (by kernel_rfl) rfl (by first | exact c1 | exact c2) ?_)
    | refine run_skip ?_
    | refine run_retOk (resOk_tmp rfl rfl ?_)
    | fail)
      all_goals exact PLe.of_eq (by simp [hp, he])
    have he0 : decide (r.rel = ⟨#[]⟩) = false := by simpa using he
    by_cases hq : partsN a = 1
    case neg =>
      have hq0 : decide (((partsN a : Nat) : Int) ≠ 1) = true := by simp; omega
      repeat' (first
    | refine run_seq ?_
    | (refine k_pick rfl ?_; first | refine k_assignD rfl rfl ?_ | refine k_moveD rfl rfl ?_ | refine k_fieldAddrB rfl rfl rfl ?_ | refine k_loadW rfl rfl rfl (by first | rfl | (simp only [cellsD]; rfl)) ?_ | refine k_loadBD rfl rfl rfl (by first | rfl | (simp only [cellsD]; rfl)) ?_ | refine k_bin2B rfl rfl rfl rfl ?_ | refine k_pickF rfl rfl (by first | rfl | assumption) rfl ?_ | refine k_call rfl (by kernel_rfl) rfl (by first | exact c1 | exact c2) ?_ | refine k_extract rfl rfl rfl ?_ | refine k_not rfl rfl ?_ | refine k_storeB rfl rfl rfl rfl rfl ?_ | refine k_alloc rfl rfl ?_)
    | refine run_opsEnd ?_
    | refine run_region ?_
    | refine run_condT rfl (by first | rfl | assumption) ?_
    | refine run_condF rfl (by first | rfl | assumption) ?_
    | (refine k_guardY rfl rfl (by first | rfl | assumption) ?_; first | refine k_loadBD rfl rfl rfl (by first | rfl | (simp only [cellsD]; rfl)) ?_ | refine k_bin2B rfl rfl rfl rfl ?_ | refine k_call rfl (by kernel_rfl) rfl (by first | exact c1 | exact c2) ?_)
    | refine run_skip ?_
    | refine run_retOk (resOk_tmp rfl rfl ?_)
    | fail)
      all_goals exact PLe.of_eq (by simp [hp, he, hq])
    have hq0 : decide (((partsN a : Nat) : Int) ≠ 1) = false := by simp; omega
    cases hm : a.maps with
    | cons m mr =>
      have hm0 : decide ((0 : Int) < ((pdMs a.maps).length : Nat)) = true := by rw [hm]; unfold pdMs; simp <;> omega
      by_cases h1 : r.rel = sSep
      · have h1' : decide (r.rel = ⟨#[115, 101, 112, 97, 114, 97, 98, 108, 101]⟩) = true := by simpa [sSep] using h1
        repeat' (first
    | refine run_seq ?_
    | (refine k_pick rfl ?_; first | refine k_assignD rfl rfl ?_ | refine k_moveD rfl rfl ?_ | refine k_fieldAddrB rfl rfl rfl ?_ | refine k_loadW rfl rfl rfl (by first | rfl | (simp only [cellsD]; rfl)) ?_ | refine k_loadBD rfl rfl rfl (by first | rfl | (simp only [cellsD]; rfl)) ?_ | refine k_bin2B rfl rfl rfl rfl ?_ | refine k_pickT rfl rfl (by first | rfl | assumption) rfl ?_ | refine k_pickF rfl rfl (by first | rfl | assumption) rfl ?_ | refine k_call rfl (by kernel_rfl) rfl (by first | exact c1 | exact c2) ?_ | refine k_extract rfl rfl rfl ?_ | refine k_lenD rfl rfl ?_ | refine k_not rfl rfl ?_ | refine k_storeB rfl rfl rfl rfl rfl ?_ | refine k_alloc rfl rfl ?_)
    | refine run_opsEnd ?_
    | refine run_region ?_
    | refine run_condT rfl (by first | rfl | assumption) ?_
    | refine run_condF rfl (by first | rfl | assumption) ?_
    | (refine k_guardY rfl rfl (by first | rfl | assumption) ?_; first | refine k_loadBD rfl rfl rfl (by first | rfl | (simp only [cellsD]; rfl)) ?_ | refine k_bin2B rfl rfl rfl rfl ?_ | refine k_call rfl (by kernel_rfl) rfl (by first | exact c1 | exact c2) ?_)
    | refine k_guardNF rfl rfl (by first | rfl | assumption) rfl ?_
    | refine run_skip ?_
    | refine run_retOk (resOk_tmp rfl rfl ?_)
    | fail)
        all_goals exact PLe.of_eq (by simp [hp, he, hq, hm, h1])
      · have h1' : decide (r.rel = ⟨#[115, 101, 112, 97, 114, 97, 98, 108, 101]⟩) = false := by simpa [sSep] using h1
        repeat' (first
    | refine run_seq ?_
    | (refine k_pick rfl ?_; first | refine k_assignD rfl rfl ?_ | refine k_moveD rfl rfl ?_ | refine k_fieldAddrB rfl rfl rfl ?_ | refine k_loadW rfl rfl rfl (by first | rfl | (simp only [cellsD]; rfl)) ?_ | refine k_loadBD rfl rfl rfl (by first | rfl | (simp only [cellsD]; rfl)) ?_ | refine k_bin2B rfl rfl rfl rfl ?_ | refine k_pickF rfl rfl (by first | rfl | assumption) rfl ?_ | refine k_call rfl (by kernel_rfl) rfl (by first | exact c1 | exact c2) ?_ | refine k_extract rfl rfl rfl ?_ | refine k_lenD rfl rfl ?_ | refine k_not rfl rfl ?_ | refine k_storeB rfl rfl rfl rfl rfl ?_ | refine k_alloc rfl rfl ?_)
    | refine run_opsEnd ?_
    | refine run_region ?_
    | refine run_condT rfl (by first | rfl | assumption) ?_
    | refine run_condF rfl (by first | rfl | assumption) ?_
    | (refine k_guardY rfl rfl (by first | rfl | assumption) ?_; first | refine k_fieldAddrB rfl rfl rfl ?_ | refine k_loadBD rfl rfl rfl (by first | rfl | (simp only [cellsD]; rfl)) ?_ | refine k_bin2B rfl rfl rfl rfl ?_ | refine k_call rfl (by kernel_rfl) rfl (by first | exact c1 | exact c2) ?_)
    | refine run_skip ?_
    | refine run_retOk (resOk_tmp rfl rfl ?_)
    | fail)
        all_goals exact PLe.of_eq (by simp [hp, he, hq, hm, h1, sAto] <;> exact decide_eq_decide.2 Iff.rfl)
    | nil =>
      have hm0 : decide ((0 : Int) < ((pdMs a.maps).length : Nat)) = false := by rw [hm]; simp [pdMs]
      cases hl : a.lists with
      | nil =>
        exfalso
        obtain ⟨a0, _, h2⟩ := Option.bind_eq_some_iff.1 hr
        rw [if_neg he] at h2
        rcases setRel_some h2 with h3 | h3
        · exact h3 hm
        · exact h3 hl
      | cons q lr =>
        have hli : (pdLs a.lists)[(0 : Int).toNat]? = some (qL q) := by rw [hl]; unfold pdLs; rw [pdL_eq]; rfl
        have hl1 : 1 ≤ (pdLs a.lists).length := by rw [hl]; unfold pdLs; simp
        have c3 := itemsF_p S q
        by_cases h1 : r.rel = sAto
        · have h1' : decide (r.rel = ⟨#[97, 116, 111, 109, 105, 99]⟩) = true := by simpa [sAto] using h1
          repeat' (first
    | refine run_seq ?_
    | (refine k_pick rfl ?_; first | refine k_assignD rfl rfl ?_ | refine k_moveD rfl rfl ?_ | refine k_fieldAddrB rfl rfl rfl ?_ | refine k_loadW rfl rfl rfl (by first | rfl | (simp only [cellsD]; rfl)) ?_ | refine k_loadBD rfl rfl rfl (by first | rfl | (simp only [cellsD]; rfl)) ?_ | refine k_bin2B rfl rfl rfl rfl ?_ | refine k_pickF rfl rfl (by first | rfl | assumption) rfl ?_ | refine k_call rfl (by kernel_rfl) rfl (by first | exact c1 | exact c2 | exact c3) ?_ | refine k_extract rfl rfl rfl ?_ | refine k_lenD rfl rfl ?_ | refine k_not rfl rfl ?_ | refine k_storeB rfl rfl rfl rfl rfl ?_ | refine k_alloc rfl rfl ?_)
    | refine run_opsEnd ?_
    | refine run_region ?_
    | refine run_condF rfl (by first | rfl | assumption) ?_
    | (refine k_guardY rfl rfl (by first | rfl | assumption) ?_; first | refine k_loadBD rfl rfl rfl (by first | rfl | (simp only [cellsD]; rfl)) ?_ | refine k_bin2B rfl rfl rfl rfl ?_ | refine k_call rfl (by kernel_rfl) rfl (by first | exact c1 | exact c2 | exact c3) ?_)
    | refine run_skip ?_
    | refine run_retOk (resOk_tmp rfl rfl ?_)
    | refine run_drawC (by kernel_rfl) ?_
    | refine c_nil (And.intro (by kernel_rfl) ?_)
    | refine c_pick (d_assignD rfl rfl) ?_
    | refine c_pick (d_moveD rfl rfl) ?_
    | refine c_pick (d_fieldAddrB rfl rfl rfl) ?_
    | refine c_pick (d_loadBD rfl rfl rfl (by first | rfl | (simp only [cellsD]; rfl))) ?_
    | refine c_pick (d_bin2B rfl rfl rfl rfl) ?_
    | refine c_pick (d_pickT rfl rfl (by first | rfl | assumption) rfl) ?_
    | refine c_passU rfl rfl ?_
    | refine c_passF rfl (by first | rfl | assumption) rfl ?_
    | fail)
          all_goals exact PLe.of_eq (by simp [hp, he, hq, hm, hl, h1])
        · have h1' : decide (r.rel = ⟨#[97, 116, 111, 109, 105, 99]⟩) = false := by simpa [sAto] using h1
          by_cases h2 : r.rel = sAsc
          · have h2' : decide (r.rel = ⟨#[97, 115, 115, 111, 99, 105, 97, 116, 105, 118, 101]⟩) = true := by simpa [sAsc] using h2
            repeat' (first
    | refine run_seq ?_
    | (refine k_pick rfl ?_; first | refine k_assignD rfl rfl ?_ | refine k_moveD rfl rfl ?_ | refine k_fieldAddrB rfl rfl rfl ?_ | refine k_loadW rfl rfl rfl (by first | rfl | (simp only [cellsD]; rfl)) ?_ | refine k_loadBD rfl rfl rfl (by first | rfl | (simp only [cellsD]; rfl)) ?_ | refine k_bin2B rfl rfl rfl rfl ?_ | refine k_pickF rfl rfl (by first | rfl | assumption) rfl ?_ | refine k_call rfl (by kernel_rfl) rfl (by first | exact c1 | exact c2 | exact c3) ?_ | refine k_extract rfl rfl rfl ?_ | refine k_lenD rfl rfl ?_ | refine k_not rfl rfl ?_ | refine k_storeB rfl rfl rfl rfl rfl ?_ | refine k_alloc rfl rfl ?_)
    | refine run_opsEnd ?_
    | refine run_region ?_
    | refine run_condF rfl (by first | rfl | assumption) ?_
    | (refine k_guardY rfl rfl (by first | rfl | assumption) ?_; first | refine k_loadBD rfl rfl rfl (by first | rfl | (simp only [cellsD]; rfl)) ?_ | refine k_bin2B rfl rfl rfl rfl ?_ | refine k_call rfl (by kernel_rfl) rfl (by first | exact c1 | exact c2 | exact c3) ?_)
    | refine run_skip ?_
    | refine run_retOk (resOk_tmp rfl rfl ?_)
    | refine run_drawC (by kernel_rfl) ?_
    | refine c_nil (And.intro (by kernel_rfl) ?_)
    | refine c_pick (d_assignD rfl rfl) ?_
    | refine c_pick (d_moveD rfl rfl) ?_
    | refine c_pick (d_fieldAddrB rfl rfl rfl) ?_
    | refine c_pick (d_loadBD rfl rfl rfl (by first | rfl | (simp only [cellsD]; rfl))) ?_
    | refine c_pick (d_bin2B rfl rfl rfl rfl) ?_
    | refine c_pick (d_pickF rfl rfl (by first | rfl | assumption) rfl) ?_
    | refine c_pickY rfl (by first | rfl | assumption) (d_indexAddrD rfl rfl rfl (by first | omega | (dsimp only; omega)) (by assumption)) ?_
    | refine c_pickY rfl (by first | rfl | assumption) (d_moveD rfl rfl) ?_
    | refine c_pickY rfl (by first | rfl | assumption) (d_fieldAddrB rfl rfl rfl) ?_
    | refine c_pickY rfl (by first | rfl | assumption) (d_loadW rfl rfl rfl (by first | rfl | (simp only [cellsD]; rfl))) ?_
    | refine c_pickY rfl (by first | rfl | assumption) (d_loadBD rfl rfl rfl (by first | rfl | (simp only [cellsD]; rfl))) ?_
    | refine c_pickY rfl (by first | rfl | assumption) (d_bin2B rfl rfl rfl rfl) ?_
    | refine c_pickY rfl (by first | rfl | assumption) (d_pickT rfl rfl (by first | rfl | assumption) rfl) ?_
    | refine c_pickY rfl (by first | rfl | assumption) (d_call rfl (by kernel_rfl) rfl (by first | exact c1 | exact c2 | exact c3)) ?_
    | refine c_pickY rfl (by first | rfl | assumption) (d_loadD rfl rfl (by first | rfl | (simp only [cellsD]; rfl))) ?_
    | fail)
            all_goals exact PLe.of_eq (by simp [hp, he, hq, hm, hl, h1, ← h2])
          · have h2' : decide (r.rel = ⟨#[97, 115, 115, 111, 99, 105, 97, 116, 105, 118, 101]⟩) = false := by simpa [sAsc] using h2
            repeat' (first
    | refine run_seq ?_
    | (refine k_pick rfl ?_; first | refine k_assignD rfl rfl ?_ | refine k_moveD rfl rfl ?_ | refine k_fieldAddrB rfl rfl rfl ?_ | refine k_loadW rfl rfl rfl (by first | rfl | (simp only [cellsD]; rfl)) ?_ | refine k_loadBD rfl rfl rfl (by first | rfl | (simp only [cellsD]; rfl)) ?_ | refine k_bin2B rfl rfl rfl rfl ?_ | refine k_pickF rfl rfl (by first | rfl | assumption) rfl ?_ | refine k_call rfl (by kernel_rfl) rfl (by first | exact c1 | exact c2 | exact c3) ?_ | refine k_extract rfl rfl rfl ?_ | refine k_lenD rfl rfl ?_ | refine k_not rfl rfl ?_ | refine k_storeB rfl rfl rfl rfl rfl ?_ | refine k_alloc rfl rfl ?_)
    | refine run_opsEnd ?_
    | refine run_region ?_
    | refine run_condF rfl (by first | rfl | assumption) ?_
    | (refine k_guardY rfl rfl (by first | rfl | assumption) ?_; first | refine k_loadBD rfl rfl rfl (by first | rfl | (simp only [cellsD]; rfl)) ?_ | refine k_bin2B rfl rfl rfl rfl ?_ | refine k_call rfl (by kernel_rfl) rfl (by first | exact c1 | exact c2 | exact c3) ?_)
    | refine run_skip ?_
    | refine run_retOk (resOk_tmp rfl rfl ?_)
    | refine run_drawC (by kernel_rfl) ?_
    | refine c_nil (And.intro (by kernel_rfl) ?_)
    | refine c_pick (d_assignD rfl rfl) ?_
    | refine c_pick (d_moveD rfl rfl) ?_
    | refine c_pick (d_fieldAddrB rfl rfl rfl) ?_
    | refine c_pick (d_loadBD rfl rfl rfl (by first | rfl | (simp only [cellsD]; rfl))) ?_
    | refine c_pick (d_bin2B rfl rfl rfl rfl) ?_
    | refine c_pick (d_pickF rfl rfl (by first | rfl | assumption) rfl) ?_
    | refine c_passT rfl (by first | rfl | assumption) rfl ?_
    | refine c_pickY rfl (by first | rfl | assumption) (d_moveD rfl rfl) ?_
    | refine c_pickY rfl (by first | rfl | assumption) (d_fieldAddrB rfl rfl rfl) ?_
    | refine c_pickY rfl (by first | rfl | assumption) (d_loadBD rfl rfl rfl (by first | rfl | (simp only [cellsD]; rfl))) ?_
    | refine c_pickY rfl (by first | rfl | assumption) (d_bin2B rfl rfl rfl rfl) ?_
    | refine c_pickY rfl (by first | rfl | assumption) (d_pickF rfl rfl (by first | rfl | assumption) rfl) ?_
    | fail)
            all_goals exact PLe.of_eq (by simp [hp, he, hq, hm, hl, h1, h2])
mutual
theorem wfA_c (S : List TD) : ∀ a : TA, PCall Try.prog 120 [pdSch S, qA a] (.val (.bool (wfA S a)))
  | .mk s l m => atomFormed_p S _ (fun x r e => by
      cases l with
      | nil => cases e
      | cons y r' => cases e; exact wfL_c S x) (fun x r e => by
      cases m with
      | nil => cases e
      | cons y r' => cases e; exact wfM_c S x)
theorem wfR_c (S : List TD) : ∀ x : TR, PCall Try.prog 121 [pdSch S, qR x] (.val (.bool (wfR S x)))
  | .mk _ _ a _ => refFormed_p S _ (fun _ => wfA_c S a)
theorem wfL_c (S : List TD) : ∀ x : TL, PCall Try.prog 143 [pdSch S, qL x] (.val (.bool (wfL S x)))
  | .mk e _ _ => listFormed_p S _ (wfR_c S e)
theorem wfM_c (S : List TD) : ∀ x : TM, PCall Try.prog 144 [pdSch S, qM x] (.val (.bool (wfM S x)))
  | .mk f e _ => mapFormed_p S _ (fun _ => wfR_c S e) (wfFs_c S f)
theorem wfFs_c (S : List TD) : ∀ (l : List TF), ∀ f ∈ l, PCall Try.prog 121 [pdSch S, qR f.type] (.val (.bool (wfR S f.type)))
  | [], _, h => by cases h
  | x :: r, f, h => by
    rcases List.mem_cons.1 h with h | h
    · rw [h]; exact wfF_c S x
    · exact wfFs_c S r f h
theorem wfF_c (S : List TD) : ∀ x : TF, PCall Try.prog 121 [pdSch S, qR x.type] (.val (.bool (wfR S x.type)))
  | .mk _ t _ => wfR_c S t
end
end Go.Proofs.Ytlghpcokbppkfaa
