import Derived.Test.YtlghpcokbppkfaaConv
import Derived.Test.YtlghpcokbppkfaaCleanAll
import Derived.Test.YtlghpcokbppkfaaSameB
import Derived.Test.YtlghpcokbppkfaaIdem
import Derived.Test.YtlghpcokbppkfaaOrderlyL
set_option linter.unusedVariables false
/- The laws' comparisons of types, where they must answer true. -/
namespace Go.Proofs.Ytlghpcokbppkfaa
open Go.RowKit
set_option linter.unusedSimpArgs false
set_option maxRecDepth 10000
set_option maxHeartbeats 2000000

theorem clean_p (x : GV) : PCall Try.prog 17 [pdV x] (pdV (cleanV x)) := pcall_V1V (clean_any x)
theorem identical_p (x y : GV) : PCall Try.prog 69 [pdV x, pdV y] (.val (.bool (sameG x y))) := pcall_V2s trivial (fun w v v' h h' => (same_all x).use y w v v' h h')
theorem sameValue_p (x y : GV) : PCall Try.prog 40 [pdV x, pdV y] (.val (.bool (sameG (cleanV x) (cleanV y)))) := by
  have c1 := clean_p x
  have c2 := clean_p y
  have c3 := identical_p (cleanV x) (cleanV y)
  refine pcall_of_run Try.func40 rfl Try.ntmps40 rfl (fun X => ?_)
  repeat' (first
    | refine run_seq ?_
    | (refine k_pick rfl ?_; first | refine k_assignD rfl rfl ?_ | refine k_boxW rfl rfl rfl (by first | rfl | (simp only [pdV_eq, cellsD]; rfl)) ?_)
    | refine run_opsEnd ?_
    | refine run_region ?_
    | refine run_retOk (resOk_tmp rfl rfl ?_)
    | refine run_drawC (by kernel_rfl) ?_
    | refine c_nil (And.intro (by kernel_rfl) ?_)
    | refine c_pick (d_assignD rfl rfl) ?_
    | refine c_pick (d_loadW rfl rfl rfl (by first | rfl | (simp only [pdV_eq, cellsD]; rfl))) ?_
    | refine c_pick (d_call rfl (by kernel_rfl) rfl (by first | exact c1 | (simp only [← pdV_eq]; exact c1) | exact c2 | (simp only [← pdV_eq]; exact c2) | exact c3 | (simp only [← pdV_eq]; exact c3))) ?_
    | fail)
  all_goals exact PLe.refl _
theorem sameValue_clean (x : GV) : PCall Try.prog 40 [pdV (cleanV x), pdV x] (.val (.bool true)) := by
  have := sameValue_p (cleanV x) x
  rw [cleanV_idem, sameG_iff.2 rfl] at this
  exact this

theorem take_min1 {α : Type} (l : List α) : l.take (min 1 l.length) = l.take 1 := by cases l <;> simp
theorem firstList_p (a : TA) : PCall Try.prog 76 [pdA a] (.sl 8 144 (pdLs (a.lists.take 1))) := by
  refine pcall_of_run Try.func76 rfl Try.ntmps76 rfl (fun X => ?_)
  repeat' (first
    | refine run_seq ?_
    | (refine k_pick rfl ?_; first | refine k_assignD rfl rfl ?_ | refine k_fieldAddrB rfl rfl rfl ?_ | refine k_loadBD rfl rfl rfl (by first | rfl | (simp only [pdA_eq, cellsD]; rfl)) ?_ | refine k_boxW rfl rfl rfl (by first | rfl | (simp only [pdA_eq, cellsD]; rfl)) ?_ | refine k_min1 rfl rfl rfl ?_ | refine k_sliceD rfl rfl rfl rfl (by omega) (by first | omega | (dsimp only; omega)) ?_ | refine k_lenD rfl rfl ?_)
    | refine run_opsEnd ?_
    | refine run_region ?_
    | refine run_retOk (resOk_tmp rfl rfl ?_)
    | fail)
  all_goals (refine PLe.of_eq ?_; rw [List.drop_zero, pdLs_eq, pdLs_eq, take_min1, List.map_take])
theorem firstMap_p (a : TA) : PCall Try.prog 77 [pdA a] (.sl 8 144 (pdMs (a.maps.take 1))) := by
  refine pcall_of_run Try.func77 rfl Try.ntmps77 rfl (fun X => ?_)
  repeat' (first
    | refine run_seq ?_
    | (refine k_pick rfl ?_; first | refine k_assignD rfl rfl ?_ | refine k_fieldAddrB rfl rfl rfl ?_ | refine k_loadBD rfl rfl rfl (by first | rfl | (simp only [pdA_eq, cellsD]; rfl)) ?_ | refine k_boxW rfl rfl rfl (by first | rfl | (simp only [pdA_eq, cellsD]; rfl)) ?_ | refine k_min1 rfl rfl rfl ?_ | refine k_sliceD rfl rfl rfl rfl (by omega) (by first | omega | (dsimp only; omega)) ?_ | refine k_lenD rfl rfl ?_)
    | refine run_opsEnd ?_
    | refine run_region ?_
    | refine run_retOk (resOk_tmp rfl rfl ?_)
    | fail)
  all_goals (refine PLe.of_eq ?_; rw [List.drop_zero, pdMs_eq, pdMs_eq, take_min1, List.map_take])
/-- A field's default, if it is not null. -/
def dO : List GV → List GV
  | [] => []
  | x :: _ => if (cleanV x).kind = 0 then [] else [x]
theorem defaultOf_p (f : TF) : PCall Try.prog 118 [pdF f] (.sl 6 88 (pdVs (dO f.dflt))) := by
  refine pcall_of_run Try.func118 rfl Try.ntmps118 rfl (fun X => ?_)
  cases hd : f.dflt with
  | nil =>
    have h0 : decide (((pdVs f.dflt).length : Int) = 0) = true := by rw [hd]; simp [pdVs]
    repeat' (first
    | refine run_seq ?_
    | (refine k_pick rfl ?_; first | refine k_assignD rfl rfl ?_ | refine k_moveD rfl rfl ?_ | refine k_fieldAddrB rfl rfl rfl ?_ | refine k_loadBD rfl rfl rfl (by first | rfl | (simp only [pdF_eq, cellsD]; rfl)) ?_ | refine k_bin2B rfl rfl rfl rfl ?_ | refine k_pickT rfl rfl (by first | rfl | assumption) rfl ?_ | refine k_boxW rfl rfl rfl (by first | rfl | (simp only [pdF_eq, cellsD]; rfl)) ?_ | refine k_lenD rfl rfl ?_)
    | refine run_opsEnd ?_
    | refine run_region ?_
    | refine run_condT rfl (by first | rfl | assumption) ?_
    | refine k_guardNF rfl rfl (by first | rfl | assumption) rfl ?_
    | refine run_retOk (resOk_tmp rfl rfl ?_)
    | fail)
    all_goals (simp only [dO, pdVs]; exact PLe.nil _ _)
  | cons x r =>
    have h0 : decide (((pdVs f.dflt).length : Int) = 0) = false := by rw [hd]; unfold pdVs; simp; omega
    have hi : (pdVs f.dflt)[(0 : Int).toNat]? = some (pdV x) := head0V hd
    have cc := clean_p x
    by_cases hk : (cleanV x).kind = 0
    · have h1 : decide ((cleanV x).kind = 0) = true := by simpa using hk
      repeat' (first
    | refine run_seq ?_
    | (refine k_pick rfl ?_; first | refine k_assignD rfl rfl ?_ | refine k_moveD rfl rfl ?_ | refine k_fieldAddrB rfl rfl rfl ?_ | refine k_loadBD rfl rfl rfl (by first | rfl | (simp only [pdF_eq, pdV_eq, cellsD]; rfl)) ?_ | refine k_bin2B rfl rfl rfl rfl ?_ | refine k_pickF rfl rfl (by first | rfl | assumption) rfl ?_ | refine k_boxW rfl rfl rfl (by first | rfl | (simp only [pdF_eq, pdV_eq, cellsD]; rfl)) ?_ | refine k_lenD rfl rfl ?_)
    | refine run_opsEnd ?_
    | refine run_region ?_
    | refine run_condT rfl (by first | rfl | assumption) ?_
    | (refine k_guardY rfl rfl (by first | rfl | assumption) ?_; first | refine k_indexAddrD rfl rfl rfl (by omega) (by assumption) ?_ | refine k_fieldAddrB rfl rfl rfl ?_ | refine k_loadBD rfl rfl rfl (by first | rfl | (simp only [pdF_eq, pdV_eq, cellsD]; rfl)) ?_ | refine k_bin2B rfl rfl rfl rfl ?_ | refine k_call rfl (by kernel_rfl) rfl (by first | exact cc | (simp only [← pdF_eq, ← pdV_eq]; exact cc)) ?_ | refine k_loadD rfl rfl (by first | rfl | (simp only [pdF_eq, pdV_eq, cellsD]; rfl)) ?_ | refine k_fieldD rfl rfl (by first | rfl | exact pdF_eq _ | exact pdV_eq _) (by first | rfl | (simp only [pdF_eq, pdV_eq, cellsD]; rfl)) ?_)
    | refine run_retOk (resOk_tmp rfl rfl ?_)
    | fail)
      all_goals (simp only [dO, hk, if_true, pdVs]; exact PLe.nil _ _)
    · have h1 : decide ((cleanV x).kind = 0) = false := by simpa using hk
      have hle : 1 ≤ (pdVs f.dflt).length := by rw [hd]; unfold pdVs; simp
      repeat' (first
    | refine run_seq ?_
    | (refine k_pick rfl ?_; first | refine k_sliceD (b := 1) rfl rfl rfl rfl (by omega) hle ?_ | refine k_assignD rfl rfl ?_ | refine k_moveD rfl rfl ?_ | refine k_fieldAddrB rfl rfl rfl ?_ | refine k_loadBD rfl rfl rfl (by first | rfl | (simp only [pdF_eq, pdV_eq, cellsD]; rfl)) ?_ | refine k_bin2B rfl rfl rfl rfl ?_ | refine k_pickF rfl rfl (by first | rfl | assumption) rfl ?_ | refine k_boxW rfl rfl rfl (by first | rfl | (simp only [pdF_eq, pdV_eq, cellsD]; rfl)) ?_ | refine k_lenD rfl rfl ?_)
    | refine run_opsEnd ?_
    | refine run_region ?_
    | refine run_condF rfl (by first | rfl | assumption) ?_
    | (refine k_guardY rfl rfl (by first | rfl | assumption) ?_; first | refine k_indexAddrD rfl rfl rfl (by omega) (by assumption) ?_ | refine k_fieldAddrB rfl rfl rfl ?_ | refine k_loadBD rfl rfl rfl (by first | rfl | (simp only [pdF_eq, pdV_eq, cellsD]; rfl)) ?_ | refine k_bin2B rfl rfl rfl rfl ?_ | refine k_call rfl (by kernel_rfl) rfl (by first | exact cc | (simp only [← pdF_eq, ← pdV_eq]; exact cc)) ?_ | refine k_loadD rfl rfl (by first | rfl | (simp only [pdF_eq, pdV_eq, cellsD]; rfl)) ?_ | refine k_fieldD rfl rfl (by first | rfl | exact pdF_eq _ | exact pdV_eq _) (by first | rfl | (simp only [pdF_eq, pdV_eq, cellsD]; rfl)) ?_)
    | refine run_skip ?_
    | refine run_retOk (resOk_tmp rfl rfl ?_)
    | fail)
      all_goals (refine PLe.of_eq ?_; simp [dO, hk, hd, pdVs])
end Go.Proofs.Ytlghpcokbppkfaa

/- sameStrings, refsAlike, fieldsAlike: true on what went there and back. -/
namespace Go.Proofs.Ytlghpcokbppkfaa
open Go.RowKit
set_option linter.unusedSimpArgs false
set_option maxRecDepth 10000
set_option maxHeartbeats 2000000

/-- spec.SameValue as a function value. -/
def fSV : PD := .val (.func (.func 40) #[] #[])
theorem sameStrings_p (ks : List ByteArray) : PCall Try.prog 129 [.sl 1 16 (pdS ks), .sl 1 16 (pdS ks)] (.val (.bool true)) := by
  refine pcall_fits fun hfit => ?_
  have hb := (show Fits (.sl 1 16 (pdS ks)) from hfit _ (by simp)).sl
  rw [pdS_len] at hb
  have hb1 := hb.1
  clear hb
  have hlen := pdS_len ks
  have hne : decide (((pdS ks).length : Int) ≠ ((pdS ks).length : Int)) = false := by simp
  refine pcall_of_run Try.func129 rfl Try.ntmps129 rfl (fun X => ?_)
  repeat' (first
    | refine run_seq ?_
    | (refine k_pick rfl ?_; first | refine k_assignD rfl rfl ?_ | refine k_moveD rfl rfl ?_ | refine k_bin2B rfl rfl rfl rfl ?_ | refine k_lenD rfl rfl ?_)
    | refine run_opsEnd ?_
    | refine run_region ?_
    | refine run_condF rfl (by first | rfl | assumption) ?_
    | refine run_block ?_
    | refine run_skip ?_
    | fail)
  refine run_loopS (ι := { k : Nat // k ≤ ks.length })
    (fun k => [(0, .dat (.sl 1 16 (pdS ks))), (1, .dat (.sl 1 16 (pdS ks))), (12, .dat (.val (.int .i64 ((pdS ks).length : Nat)))), (13, .dat (.val (.int .i64 (k.1 : Nat))))])
    (fun k => [])
    (fun k => ks.length - k.1) ⟨0, Nat.zero_le _⟩ id ?_ ?_
  · (refine ⟨?_, ?_, by rfl⟩ <;> repeat' (first | exact trivial | exact ALe.ptr rfl | exact ALe.own rfl | exact ALe.elt rfl | exact BLe.boxD _ _ | exact BLe.row rfl | exact BLe.res | exact ALe.dat (PLe.refl _) | exact CLe.nil | refine And.intro ?_ ?_ | refine ALe.iface ?_ | refine ALe.clo ?_ | refine CLe.cons ?_ ?_ | refine BLe.box ?_ | refine BLe.row ?_ | refine ALe.dat (PLe.of_eq ?_)))
  · rintro ⟨k, hk⟩
    by_cases hlt : k < ks.length
    · have hc : decide ((k : Int) < (((pdS ks).length : Nat) : Int)) = true := by rw [hlen]; simpa using hlt
      obtain ⟨f, hf⟩ : ∃ f, ks[k]? = some f := ⟨ks[k], by simp [hlt]⟩
      have hi : (pdS ks)[((k : Nat) : Int).toNat]? = some (.val (.string f)) := pdS_at hf
      have hff : decide (f ≠ f) = false := by simp
      repeat' (first
    | refine run_seq ?_
    | (refine k_pick rfl ?_; first | refine k_assignD rfl rfl ?_ | refine k_moveD rfl rfl ?_ | refine k_bin2B rfl rfl rfl rfl ?_ | refine k_ariI rfl rfl rfl rfl (by first | omega | (dsimp only; omega)) ?_)
    | refine run_opsEnd ?_
    | refine run_region ?_
    | refine run_condT rfl (by first | rfl | assumption) ?_
    | refine run_condF rfl (by first | rfl | assumption) ?_
    | refine run_block ?_
    | refine run_blkEnd ?_
    | refine run_skip ?_
    | refine run_drawC (by kernel_rfl) ?_
    | refine c_nil (And.intro (by kernel_rfl) ?_)
    | refine c_pick (d_indexAddrD rfl rfl rfl (by first | omega | (dsimp only; omega)) (by assumption)) ?_
    | refine c_pick (d_moveD rfl rfl) ?_
    | refine c_pick (d_bin2B rfl rfl rfl rfl) ?_
    | refine c_pick (d_loadD rfl rfl (by first | rfl | (simp only [cellsD]; rfl))) ?_
    | fail)
      refine run_again ?_
      refine ⟨⟨k + 1, by omega⟩, id, by simp only; omega, ?_⟩
      (refine ⟨?_, ?_, by rfl⟩ <;> repeat' (first | exact trivial | exact ALe.ptr rfl | exact ALe.own rfl | exact ALe.elt rfl | exact BLe.boxD _ _ | exact BLe.row rfl | exact BLe.res | exact ALe.dat (PLe.refl _) | exact CLe.nil | refine And.intro ?_ ?_ | refine ALe.iface ?_ | refine ALe.clo ?_ | refine CLe.cons ?_ ?_ | refine BLe.box ?_ | refine BLe.row ?_ | refine ALe.dat (PLe.of_eq ?_)))
      all_goals simp
    · have hc : decide ((k : Int) < (((pdS ks).length : Nat) : Int)) = false := by rw [hlen]; simpa using hlt
      repeat' (first
    | refine run_seq ?_
    | (refine k_pick rfl ?_; first | refine k_assignD rfl rfl ?_ | refine k_bin2B rfl rfl rfl rfl ?_)
    | refine run_opsEnd ?_
    | refine run_region ?_
    | refine run_condF rfl (by first | rfl | assumption) ?_
    | refine run_exit rfl ?_
    | refine run_retOk (resOk_tmp rfl rfl ?_)
    | fail)
      all_goals exact PLe.refl _
theorem refsAlike_p (r : TR) (ih : r.named = false → PCall Try.prog 95 [qA (nA r.atom), qA r.atom, fSV] (.val (.bool true))) : PCall Try.prog 84 [qR (nR r), qR r, fSV] (.val (.bool true)) := by
  obtain ⟨b, n, a, rl⟩ := r
  have h1 : decide (rl ≠ rl) = false := by simp
  have h2 : decide (n = n) = true := by simp
  cases b
  · have cA := ih rfl
    have e : qR (nR (.mk false n a rl)) = .agg [.val (.bool false), .val (.string ⟨#[]⟩), .val (.string (nA a).scalar), .sl 8 144 (pdLs (nA a).lists), .sl 8 144 (pdMs (nA a).maps), .val (.string rl)] := by unfold qR nR; rfl
    rw [e]
    refine pcall_of_run Try.func84 rfl Try.ntmps84 rfl (fun X => ?_)
    repeat' (first
    | refine run_seq ?_
    | (refine k_pick rfl ?_; first | refine k_assignD rfl rfl ?_ | refine k_moveD rfl rfl ?_ | refine k_fieldAddrB rfl rfl rfl ?_ | refine k_loadBD rfl rfl rfl (by first | rfl | (simp only [cellsD]; rfl)) ?_ | refine k_pickF rfl rfl (by first | rfl | assumption) rfl ?_ | refine k_boxW rfl rfl rfl (by first | rfl | (simp only [cellsD]; rfl)) ?_ | refine k_call rfl (by kernel_rfl) rfl (by first | exact cA) ?_ | refine k_cmpBool rfl rfl rfl (by kernel_rfl) rfl ?_)
    | refine run_opsEnd ?_
    | refine run_region ?_
    | refine run_condF rfl (by first | rfl | assumption) ?_
    | (refine k_guardY rfl rfl (by first | rfl | assumption) ?_; first | refine k_fieldAddrB rfl rfl rfl ?_ | refine k_loadBD rfl rfl rfl (by first | rfl | (simp only [cellsD]; rfl)) ?_ | refine k_bin2B rfl rfl rfl rfl ?_)
    | refine run_skip ?_
    | refine run_retOk (resOk_tmp rfl rfl ?_)
    | fail)
    all_goals exact PLe.refl _
  · have e : qR (nR (.mk true n a rl)) = .agg [.val (.bool true), .val (.string n), .val (.string emptyA.scalar), .sl 8 144 (pdLs emptyA.lists), .sl 8 144 (pdMs emptyA.maps), .val (.string rl)] := by unfold qR nR; rfl
    rw [e]
    refine pcall_of_run Try.func84 rfl Try.ntmps84 rfl (fun X => ?_)
    repeat' (first
    | refine run_seq ?_
    | (refine k_pick rfl ?_; first | refine k_assignD rfl rfl ?_ | refine k_moveD rfl rfl ?_ | refine k_fieldAddrB rfl rfl rfl ?_ | refine k_loadBD rfl rfl rfl (by first | rfl | (simp only [cellsD]; rfl)) ?_ | refine k_bin2B rfl rfl rfl rfl ?_ | refine k_pickF rfl rfl (by first | rfl | assumption) rfl ?_ | refine k_boxW rfl rfl rfl (by first | rfl | (simp only [cellsD]; rfl)) ?_ | refine k_cmpBool rfl rfl rfl (by kernel_rfl) rfl ?_)
    | refine run_opsEnd ?_
    | refine run_region ?_
    | refine run_condT rfl (by first | rfl | assumption) ?_
    | refine run_condF rfl (by first | rfl | assumption) ?_
    | (refine k_guardY rfl rfl (by first | rfl | assumption) ?_; first | refine k_fieldAddrB rfl rfl rfl ?_ | refine k_loadBD rfl rfl rfl (by first | rfl | (simp only [cellsD]; rfl)) ?_ | refine k_bin2B rfl rfl rfl rfl ?_)
    | refine run_skip ?_
    | refine run_retOk (resOk_tmp rfl rfl ?_)
    | fail)
    all_goals (refine PLe.of_eq ?_; simp [TR.name])
theorem cleanV_kindN (x : GV) : (cleanV x).kind = if x.kind = 1 then 1 else if x.kind = 2 then 2 else if x.kind = 3 then 3 else if x.kind = 4 then 4 else if x.kind = 5 then 5 else if x.kind = 6 then 6 else 0 := by
  obtain ⟨k, n, f, s, ks, l⟩ := x
  show _ = if k = 1 then _ else _
  unfold cleanV
  by_cases h1 : k = 1
  · simp only [if_pos h1]; rfl
  by_cases h2 : k = 2
  · simp only [if_neg h1, if_pos h2]; simp [h2, GV.kind]
  by_cases h3 : k = 3
  · simp only [if_neg h1, if_neg h2, if_pos h3]; simp [h3, GV.kind]
  by_cases h4 : k = 4
  · simp only [if_neg h1, if_neg h2, if_neg h3, if_pos h4]; simp [h4, GV.kind]
  by_cases h5 : k = 5
  · simp only [if_neg h1, if_neg h2, if_neg h3, if_neg h4, if_pos h5]; simp [h5, GV.kind]
  by_cases h6 : k = 6
  · simp only [if_neg h1, if_neg h2, if_neg h3, if_neg h4, if_neg h5, if_pos h6]
    obtain ⟨a, b, h, _⟩ := (cleanM_plain ks l gMap gMap_plain).1
    show (cleanM ks l gMap).kind = _
    rw [h]
    simp [h6, GV.kind]
  simp [h1, h2, h3, h4, h5, h6, GV.kind, gNull]
theorem isNull_kind (x : GV) : isNull (plainJ x) = decide ((cleanV x).kind = 0) := by
  rw [cleanV_kindN]
  obtain ⟨k, n, f, s, ks, l⟩ := x
  by_cases h1 : k = 1
  · subst h1; simp [plainJ, isNull, GV.kind]
  by_cases h2 : k = 2
  · subst h2; simp [plainJ, isNull, GV.kind]
  by_cases h3 : k = 3
  · subst h3; simp [plainJ, isNull, GV.kind]
  by_cases h4 : k = 4
  · subst h4; simp [plainJ, isNull, GV.kind]
  by_cases h5 : k = 5
  · subst h5; simp [plainJ, isNull, GV.kind]
  by_cases h6 : k = 6
  · subst h6; simp [plainJ, isNull, GV.kind]
  simp [plainJ, isNull, GV.kind, h1, h2, h3, h4, h5, h6]
theorem dO_form (d : List GV) : (dO (nD d) = [] ∧ dO d = []) ∨ ∃ x, dO (nD d) = [cleanV x] ∧ dO d = [x] := by
  cases d with
  | nil => left; exact ⟨by unfold nD; rfl, rfl⟩
  | cons x r =>
    have hu := isNull_kind x
    cases h : isNull (plainJ x)
    · right
      have hk : (cleanV x).kind ≠ 0 := by rw [h] at hu; simpa using hu.symm
      refine ⟨x, ?_, by simp [dO, hk]⟩
      rw [show nD (x :: r) = [cleanV x] by unfold nD; simp [h]]
      simp [dO, cleanV_idem, hk]
    · left
      have hk : (cleanV x).kind = 0 := by rw [h] at hu; simpa using hu.symm
      refine ⟨?_, by simp [dO, hk]⟩
      rw [show nD (x :: r) = [] by unfold nD; simp [h]]
      rfl
theorem fieldsAlike_p (f : TF) (ih : PCall Try.prog 84 [qR (nR f.type), qR f.type, fSV] (.val (.bool true))) : PCall Try.prog 81 [qF (nF f), qF f, fSV] (.val (.bool true)) := by
  have c1 := defaultOf_p (nF f)
  have c2 := defaultOf_p f
  rw [nF_dflt] at c1
  have hq : qF (nF f) = .agg [.val (.string f.name), .val (.bool (nR f.type).named), .val (.string (nR f.type).name), .val (.string (nR f.type).atom.scalar), .sl 8 144 (pdLs (nR f.type).atom.lists), .sl 8 144 (pdMs (nR f.type).atom.maps), .val (.string (nR f.type).rel), .sl 6 88 (pdVs (nD f.dflt))] := by unfold qF; rw [nF_name, nF_type, nF_dflt]
  rw [show pdF (nF f) = qF (nF f) from pdF_eq _, hq] at c1
  rw [show pdF f = qF f from pdF_eq _] at c2
  rw [hq]
  have hn : decide (f.name ≠ f.name) = false := by simp
  refine pcall_of_run Try.func81 rfl Try.ntmps81 rfl (fun X => ?_)
  rcases dO_form f.dflt with ⟨e1, e2⟩ | ⟨x, e1, e2⟩
  · rw [e1, show pdVs [] = [] by unfold pdVs; rfl] at c1
    rw [e2, show pdVs [] = [] by unfold pdVs; rfl] at c2
    repeat' (first
    | refine run_seq ?_
    | (refine k_pick rfl ?_; first | refine k_assignD rfl rfl ?_ | refine k_moveD rfl rfl ?_ | refine k_fieldAddrB rfl rfl rfl ?_ | refine k_loadBD rfl rfl rfl (by first | rfl | (simp only [cellsD]; rfl)) ?_ | refine k_bin2B rfl rfl rfl rfl ?_ | refine k_pickF rfl rfl (by first | rfl | assumption) rfl ?_ | refine k_boxW rfl rfl rfl (by first | rfl | (simp only [cellsD]; rfl)) ?_)
    | refine run_opsEnd ?_
    | refine run_region ?_
    | refine run_condF rfl (by first | rfl | assumption) ?_
    | (refine k_guardY rfl rfl (by first | rfl | assumption) ?_; first | refine k_moveD rfl rfl ?_ | refine k_fieldAddrB rfl rfl rfl ?_ | refine k_loadBD rfl rfl rfl (by first | rfl | (simp only [cellsD]; rfl)) ?_ | refine k_bin2B rfl rfl rfl rfl ?_ | refine k_call rfl (by kernel_rfl) rfl (by first | exact c1 | exact c2 | exact ih) ?_ | refine k_lenD rfl rfl ?_ | refine k_not rfl rfl ?_)
    | refine run_skip ?_
    | refine run_retOk (resOk_tmp rfl rfl ?_)
    | refine run_drawC (by kernel_rfl) ?_
    | refine c_nil (And.intro (by kernel_rfl) ?_)
    | refine c_pick (d_assignD rfl rfl) ?_
    | refine c_pick (d_moveD rfl rfl) ?_
    | refine c_pick (d_loadW rfl rfl rfl (by first | rfl | (simp only [cellsD]; rfl))) ?_
    | refine c_pick (d_bin2B rfl rfl rfl rfl) ?_
    | refine c_pick (d_pickT rfl rfl (by first | rfl | assumption) rfl) ?_
    | refine c_pick (d_call rfl (by kernel_rfl) rfl (by first | exact c1 | exact c2 | exact ih)) ?_
    | refine c_pick (d_lenD rfl rfl) ?_
    | refine c_passF rfl (by first | rfl | assumption) rfl ?_
    | fail)
    all_goals exact PLe.refl _
  · rw [e1, show pdVs [cleanV x] = [pdV (cleanV x)] by unfold pdVs pdVs; rfl] at c1
    rw [e2, show pdVs [x] = [pdV x] by unfold pdVs pdVs; rfl] at c2
    have cv := sameValue_clean x
    repeat' (first
    | refine run_seq ?_
    | (refine k_pick rfl ?_; first | refine k_assignD rfl rfl ?_ | refine k_moveD rfl rfl ?_ | refine k_fieldAddrB rfl rfl rfl ?_ | refine k_loadBD rfl rfl rfl (by first | rfl | (simp only [pdV_eq, cellsD]; rfl)) ?_ | refine k_bin2B rfl rfl rfl rfl ?_ | refine k_pickF rfl rfl (by first | rfl | assumption) rfl ?_ | refine k_boxW rfl rfl rfl (by first | rfl | (simp only [pdV_eq, cellsD]; rfl)) ?_)
    | refine run_opsEnd ?_
    | refine run_region ?_
    | refine run_condF rfl (by first | rfl | assumption) ?_
    | (refine k_guardY rfl rfl (by first | rfl | assumption) ?_; first | refine k_moveD rfl rfl ?_ | refine k_fieldAddrB rfl rfl rfl ?_ | refine k_loadBD rfl rfl rfl (by first | rfl | (simp only [pdV_eq, cellsD]; rfl)) ?_ | refine k_bin2B rfl rfl rfl rfl ?_ | refine k_call rfl (by kernel_rfl) rfl (by first | exact c1 | (simp only [← pdV_eq]; exact c1) | exact c2 | (simp only [← pdV_eq]; exact c2) | exact ih | (simp only [← pdV_eq]; exact ih) | exact cv | (simp only [← pdV_eq]; exact cv)) ?_ | refine k_lenD rfl rfl ?_ | refine k_not rfl rfl ?_)
    | refine run_skip ?_
    | refine run_retOk (resOk_tmp rfl rfl ?_)
    | refine run_drawC (by kernel_rfl) ?_
    | refine c_nil (And.intro (by kernel_rfl) ?_)
    | refine c_pick (d_assignD rfl rfl) ?_
    | refine c_pick (d_moveD rfl rfl) ?_
    | refine c_pick (d_loadW rfl rfl rfl (by first | rfl | (simp only [pdV_eq, cellsD]; rfl))) ?_
    | refine c_pick (d_bin2B rfl rfl rfl rfl) ?_
    | refine c_pick (d_pickF rfl rfl (by first | rfl | assumption) rfl) ?_
    | refine c_pick (d_call rfl (by kernel_rfl) rfl (by first | exact c1 | (simp only [← pdV_eq]; exact c1) | exact c2 | (simp only [← pdV_eq]; exact c2) | exact ih | (simp only [← pdV_eq]; exact ih) | exact cv | (simp only [← pdV_eq]; exact cv))) ?_
    | refine c_pick (d_lenD rfl rfl) ?_
    | refine c_pickY rfl (by first | rfl | assumption) (d_indexAddrD rfl rfl rfl (by omega) rfl) ?_
    | refine c_pickY rfl (by first | rfl | assumption) (d_moveD rfl rfl) ?_
    | refine c_pickY rfl (by first | rfl | assumption) (d_callV rfl rfl (by kernel_rfl) rfl (by first | exact c1 | (simp only [← pdV_eq]; exact c1) | exact c2 | (simp only [← pdV_eq]; exact c2) | exact ih | (simp only [← pdV_eq]; exact ih) | exact cv | (simp only [← pdV_eq]; exact cv))) ?_
    | refine c_pickY rfl (by first | rfl | assumption) (d_loadD rfl rfl (by first | rfl | (simp only [pdV_eq, cellsD]; rfl))) ?_
    | fail)
    all_goals exact PLe.refl _
end Go.Proofs.Ytlghpcokbppkfaa

/- atomsAlike, and all of them together; sameField. -/
namespace Go.Proofs.Ytlghpcokbppkfaa
open Go.RowKit
set_option linter.unusedSimpArgs false
set_option maxRecDepth 10000
set_option maxHeartbeats 4000000

theorem nL1_take (l : List TL) : (nL1 l).take 1 = (l.take 1).map nL := by cases l <;> simp [nL1]
theorem nM1_take (l : List TM) : (nM1 l).take 1 = (l.take 1).map nM := by cases l <;> simp [nM1]
theorem nA_scalar (a : TA) : (nA a).scalar = a.scalar := by cases a; unfold nA; rfl
theorem nA_lists (a : TA) : (nA a).lists = nL1 a.lists := by cases a; unfold nA; rfl
theorem nA_maps (a : TA) : (nA a).maps = nM1 a.maps := by cases a; unfold nA; rfl
theorem pdLs_at {l : List TL} {i : Nat} {x : TL} (h : l[i]? = some x) : (pdLs l)[((i : Nat) : Int).toNat]? = some (pdL x) := by rw [pdLs_eq]; simp [h]
theorem pdMs_at {l : List TM} {i : Nat} {x : TM} (h : l[i]? = some x) : (pdMs l)[((i : Nat) : Int).toNat]? = some (pdM x) := by rw [pdMs_eq]; simp [h]
theorem pdFs_at {l : List TF} {i : Nat} {x : TF} (h : l[i]? = some x) : (pdFs l)[((i : Nat) : Int).toNat]? = some (pdF x) := by rw [pdFs_eq]; simp [h]
theorem pdLs_len (l : List TL) : (pdLs l).length = l.length := by rw [pdLs_eq]; simp
theorem pdMs_len (l : List TM) : (pdMs l).length = l.length := by rw [pdMs_eq]; simp

theorem atomsAlike_p (a : TA) (hL : ∀ l ∈ a.lists.take 1, PCall Try.prog 84 [qR (nR l.elem), qR l.elem, fSV] (.val (.bool true)))
    (hM : ∀ m ∈ a.maps.take 1, PCall Try.prog 84 [qR (nR m.elem), qR m.elem, fSV] (.val (.bool true)) ∧ ∀ f ∈ m.fields, PCall Try.prog 81 [qF (nF f), qF f, fSV] (.val (.bool true))) :
    PCall Try.prog 95 [qA (nA a), qA a, fSV] (.val (.bool true)) := by
  refine pcall_fits fun hfit => ?_
  have hka := (show Fits (pdA a) from by rw [pdA_eq]; exact hfit (qA a) (by simp))
  have hq : qA (nA a) = .agg [.val (.string a.scalar), .sl 8 144 (pdLs (nL1 a.lists)), .sl 8 144 (pdMs (nM1 a.maps))] := by unfold qA; rw [nA_scalar, nA_lists, nA_maps]
  have c1 := firstList_p (nA a)
  have c2 := firstList_p a
  have c3 := firstMap_p (nA a)
  have c4 := firstMap_p a
  have e1 : pdA (nA a) = qA (nA a) := pdA_eq _
  have e2 : pdA a = qA a := pdA_eq _
  rw [e1, hq, nA_lists, nL1_take] at c1
  rw [e1, hq, nA_maps, nM1_take] at c3
  rw [e2] at c2 c4
  rw [hq]
  have fM := (fits_A hka).2
  have hML : ∀ m ∈ a.maps.take 1, m.fields.length * 144 ≤ 140737488351232 := fun m hm => (fits_M (fM m (List.take_subset _ _ hm))).2.1
  have hLl : (a.lists.take 1).length ≤ 1 := by simp; omega
  have hMl : (a.maps.take 1).length ≤ 1 := by simp; omega
  clear hfit hka fM
  have hs : decide (a.scalar ≠ a.scalar) = false := by simp
  generalize a.lists.take 1 = L at *
  generalize a.maps.take 1 = M at *
  have hlL : decide (((pdLs (L.map nL)).length : Int) ≠ ((pdLs L).length : Int)) = false := by simp [pdLs_len]
  have hlM : decide (((pdMs (M.map nM)).length : Int) ≠ ((pdMs M).length : Int)) = false := by simp [pdMs_len]
  have hnL : (pdLs (L.map nL)).length = L.length := by simp [pdLs_len]
  have hnM : (pdMs (M.map nM)).length = M.length := by simp [pdMs_len]
  refine pcall_of_run Try.func95 rfl Try.ntmps95 rfl (fun X => ?_)
  repeat' (first
    | refine run_seq ?_
    | (refine k_pick rfl ?_; first | refine k_assignD rfl rfl ?_ | refine k_moveD rfl rfl ?_ | refine k_fieldAddrB rfl rfl rfl ?_ | refine k_loadBD rfl rfl rfl (by first | rfl | (simp only [cellsD]; rfl)) ?_ | refine k_bin2B rfl rfl rfl rfl ?_ | refine k_pickF rfl rfl (by first | rfl | assumption) rfl ?_ | refine k_boxW rfl rfl rfl (by first | rfl | (simp only [cellsD]; rfl)) ?_ | refine k_lenD rfl rfl ?_)
    | refine run_opsEnd ?_
    | refine run_region ?_
    | refine run_condF rfl (by first | rfl | assumption) ?_
    | (refine k_guardY rfl rfl (by first | rfl | assumption) ?_; first | refine k_moveD rfl rfl ?_ | refine k_bin2B rfl rfl rfl rfl ?_ | refine k_lenD rfl rfl ?_)
    | refine run_block ?_
    | refine run_skip ?_
    | refine run_drawC (by kernel_rfl) ?_
    | refine c_nil (And.intro (by kernel_rfl) ?_)
    | refine c_pick (d_assignD rfl rfl) ?_
    | refine c_pick (d_loadW rfl rfl rfl (by first | rfl | (simp only [cellsD]; rfl))) ?_
    | refine c_pick (d_call rfl (by kernel_rfl) rfl (by first | exact c1 | exact c2 | exact c3 | exact c4)) ?_
    | fail)
  refine run_loopS (ι := { k : Nat // k ≤ L.length })
    (fun k => [(2, .dat fSV), (7, .dat (.sl 8 144 (pdLs (L.map nL)))), (8, .dat (.sl 8 144 (pdLs L))), (9, .dat (.sl 8 144 (pdMs (M.map nM)))), (10, .dat (.sl 8 144 (pdMs M))), (42, .dat (.val (.int .i64 ((pdLs (L.map nL)).length : Nat)))), (43, .dat (.val (.int .i64 (k.1 : Nat))))])
    (fun k => []) (fun k => L.length - k.1) ⟨0, Nat.zero_le _⟩ id ?_ ?_
  · (refine ⟨?_, ?_, by rfl⟩ <;> repeat' (first | exact trivial | exact ALe.ptr rfl | exact ALe.own rfl | exact ALe.elt rfl | exact BLe.boxD _ _ | exact BLe.row rfl | exact BLe.res | exact ALe.dat (PLe.refl _) | exact CLe.nil | refine And.intro ?_ ?_ | refine ALe.iface ?_ | refine ALe.clo ?_ | refine CLe.cons ?_ ?_ | refine BLe.box ?_ | refine BLe.row ?_ | refine ALe.dat (PLe.of_eq ?_)))
  · rintro ⟨k, hk⟩
    by_cases hlt : k < L.length
    · have hc : decide ((k : Int) < (((pdLs (L.map nL)).length : Nat) : Int)) = true := by rw [hnL]; simpa using hlt
      obtain ⟨l, hl⟩ : ∃ l, L[k]? = some l := ⟨L[k], by simp [hlt]⟩
      have hi := pdLs_at hl
      have hi' : (pdLs (L.map nL))[((k : Nat) : Int).toNat]? = some (pdL (nL l)) := pdLs_at (by simp [hl])
      have cS := sameStrings_p l.keys
      have cR := hL l (List.mem_of_getElem? hl)
      have hr : decide (l.rel ≠ l.rel) = false := by simp
      have hp : pdL (nL l) = .agg [.val (.bool (nR l.elem).named), .val (.string (nR l.elem).name), .val (.string (nR l.elem).atom.scalar), .sl 8 144 (pdLs (nR l.elem).atom.lists), .sl 8 144 (pdMs (nR l.elem).atom.maps), .val (.string (nR l.elem).rel), .val (.string l.rel), .sl 1 16 (pdS l.keys)] := by rw [pdL_eq, nL_elem, nL_rel, nL_keys]
      rw [hp] at hi'
      rw [pdL_eq] at hi
      repeat' (first
    | refine run_seq ?_
    | (refine k_pick rfl ?_; first | refine k_assignD rfl rfl ?_ | refine k_moveD rfl rfl ?_ | refine k_bin2B rfl rfl rfl rfl ?_ | refine k_ariI rfl rfl rfl rfl (by first | omega | (dsimp only; omega)) ?_)
    | refine run_opsEnd ?_
    | refine run_region ?_
    | refine run_condT rfl (by first | rfl | assumption) ?_
    | refine run_condF rfl (by first | rfl | assumption) ?_
    | refine run_block ?_
    | refine run_blkEnd ?_
    | refine run_skip ?_
    | refine run_drawC (by kernel_rfl) ?_
    | refine c_nil (And.intro (by kernel_rfl) ?_)
    | refine c_pick (d_indexAddrD rfl rfl rfl (by first | omega | (dsimp only; omega)) (by assumption)) ?_
    | refine c_pick (d_moveD rfl rfl) ?_
    | refine c_pick (d_bin2B rfl rfl rfl rfl) ?_
    | refine c_pick (d_pickF rfl rfl (by first | rfl | assumption) rfl) ?_
    | refine c_pick (d_fieldAddrD rfl rfl rfl rfl (by first | rfl | (simp only [cellsD]; rfl))) ?_
    | refine c_pick (d_loadD rfl rfl (by first | rfl | (simp only [cellsD]; rfl))) ?_
    | refine c_pickY rfl (by first | rfl | assumption) (d_indexAddrD rfl rfl rfl (by first | omega | (dsimp only; omega)) (by assumption)) ?_
    | refine c_pickY rfl (by first | rfl | assumption) (d_moveD rfl rfl) ?_
    | refine c_pickY rfl (by first | rfl | assumption) (d_call rfl (by kernel_rfl) rfl (by first | exact cS | exact cR)) ?_
    | refine c_pickY rfl (by first | rfl | assumption) (d_not rfl rfl) ?_
    | refine c_pickY rfl (by first | rfl | assumption) (d_fieldAddrD rfl rfl rfl rfl (by first | rfl | (simp only [cellsD]; rfl))) ?_
    | refine c_pickY rfl (by first | rfl | assumption) (d_loadD rfl rfl (by first | rfl | (simp only [cellsD]; rfl))) ?_
    | fail)
      refine run_again ?_
      refine ⟨⟨k + 1, by omega⟩, id, by simp only; omega, ?_⟩
      (refine ⟨?_, ?_, by rfl⟩ <;> repeat' (first | exact trivial | exact ALe.ptr rfl | exact ALe.own rfl | exact ALe.elt rfl | exact BLe.boxD _ _ | exact BLe.row rfl | exact BLe.res | exact ALe.dat (PLe.refl _) | exact CLe.nil | refine And.intro ?_ ?_ | refine ALe.iface ?_ | refine ALe.clo ?_ | refine CLe.cons ?_ ?_ | refine BLe.box ?_ | refine BLe.row ?_ | refine ALe.dat (PLe.of_eq ?_)))
    · have hc : decide ((k : Int) < (((pdLs (L.map nL)).length : Nat) : Int)) = false := by rw [hnL]; simpa using hlt
      repeat' (first
    | refine run_seq ?_
    | (refine k_pick rfl ?_; first | refine k_moveD rfl rfl ?_ | refine k_bin2B rfl rfl rfl rfl ?_ | refine k_lenD rfl rfl ?_)
    | refine run_opsEnd ?_
    | refine run_region ?_
    | refine run_condF rfl (by first | rfl | assumption) ?_
    | refine run_block ?_
    | refine run_exit rfl ?_
    | fail)
      refine run_loopS (ι := { k : Nat // k ≤ M.length })
        (fun k => [(2, .dat fSV), (9, .dat (.sl 8 144 (pdMs (M.map nM)))), (10, .dat (.sl 8 144 (pdMs M))), (88, .dat (.val (.int .i64 ((pdMs (M.map nM)).length : Nat)))), (89, .dat (.val (.int .i64 (k.1 : Nat))))])
        (fun k => []) (fun k => M.length - k.1) ⟨0, Nat.zero_le _⟩ id ?_ ?_
      · (refine ⟨?_, ?_, by rfl⟩ <;> repeat' (first | exact trivial | exact ALe.ptr rfl | exact ALe.own rfl | exact ALe.elt rfl | exact BLe.boxD _ _ | exact BLe.row rfl | exact BLe.res | exact ALe.dat (PLe.refl _) | exact CLe.nil | refine And.intro ?_ ?_ | refine ALe.iface ?_ | refine ALe.clo ?_ | refine CLe.cons ?_ ?_ | refine BLe.box ?_ | refine BLe.row ?_ | refine ALe.dat (PLe.of_eq ?_)))
      · clear hlt hk
        clear hc
        rintro ⟨k, hk⟩
        by_cases hlt : k < M.length
        · have hc : decide ((k : Int) < (((pdMs (M.map nM)).length : Nat) : Int)) = true := by rw [hnM]; simpa using hlt
          obtain ⟨m, hm⟩ : ∃ m, M[k]? = some m := ⟨M[k], by simp [hlt]⟩
          have hmm := List.mem_of_getElem? hm
          have hi := pdMs_at hm
          have hi' : (pdMs (M.map nM))[((k : Nat) : Int).toNat]? = some (pdM (nM m)) := pdMs_at (by simp [hm])
          obtain ⟨cR, cF⟩ := hM m hmm
          have hbF := hML m hmm
          have hr : decide (m.rel ≠ m.rel) = false := by simp
          have hp : pdM (nM m) = .agg [.sl 8 144 (pdFs (nFs m.fields)), .val (.bool (nR m.elem).named), .val (.string (nR m.elem).name), .val (.string (nR m.elem).atom.scalar), .sl 8 144 (pdLs (nR m.elem).atom.lists), .sl 8 144 (pdMs (nR m.elem).atom.maps), .val (.string (nR m.elem).rel), .val (.string m.rel)] := by rw [pdM_eq, nM_fields, nM_elem, nM_rel]
          have hnF : (pdFs (nFs m.fields)).length = m.fields.length := by rw [pdFs_len, nFs_eq]; simp
          have hlF : decide (((pdFs (nFs m.fields)).length : Int) ≠ ((pdFs m.fields).length : Int)) = false := by rw [hnF, pdFs_len]; simp
          rw [hp] at hi'
          rw [pdM_eq] at hi
          repeat' (first
    | refine run_seq ?_
    | (refine k_pick rfl ?_; first | refine k_indexAddrD rfl rfl rfl (by first | omega | (dsimp only; omega)) (by assumption) ?_ | refine k_assignD rfl rfl ?_ | refine k_moveD rfl rfl ?_ | refine k_bin2B rfl rfl rfl rfl ?_ | refine k_lenD rfl rfl ?_ | refine k_fieldAddrD rfl rfl rfl rfl (by first | rfl | (simp only [cellsD]; rfl)) ?_ | refine k_loadD rfl rfl (by first | rfl | (simp only [cellsD]; rfl)) ?_)
    | refine run_opsEnd ?_
    | refine run_region ?_
    | refine run_condT rfl (by first | rfl | assumption) ?_
    | refine run_condF rfl (by first | rfl | assumption) ?_
    | refine run_block ?_
    | refine run_skip ?_
    | refine run_drawC (by kernel_rfl) ?_
    | refine c_nil (And.intro (by kernel_rfl) ?_)
    | refine c_pick (d_indexAddrD rfl rfl rfl (by first | omega | (dsimp only; omega)) (by assumption)) ?_
    | refine c_pick (d_moveD rfl rfl) ?_
    | refine c_pick (d_bin2B rfl rfl rfl rfl) ?_
    | refine c_pick (d_pickF rfl rfl (by first | rfl | assumption) rfl) ?_
    | refine c_pick (d_fieldAddrD rfl rfl rfl rfl (by first | rfl | (simp only [cellsD]; rfl))) ?_
    | refine c_pick (d_loadD rfl rfl (by first | rfl | (simp only [cellsD]; rfl))) ?_
    | refine c_pickY rfl (by first | rfl | assumption) (d_indexAddrD rfl rfl rfl (by first | omega | (dsimp only; omega)) (by assumption)) ?_
    | refine c_pickY rfl (by first | rfl | assumption) (d_moveD rfl rfl) ?_
    | refine c_pickY rfl (by first | rfl | assumption) (d_bin2B rfl rfl rfl rfl) ?_
    | refine c_pickY rfl (by first | rfl | assumption) (d_call rfl (by kernel_rfl) rfl (by first | exact cR)) ?_
    | refine c_pickY rfl (by first | rfl | assumption) (d_lenD rfl rfl) ?_
    | refine c_pickY rfl (by first | rfl | assumption) (d_not rfl rfl) ?_
    | refine c_pickY rfl (by first | rfl | assumption) (d_fieldAddrD rfl rfl rfl rfl (by first | rfl | (simp only [cellsD]; rfl))) ?_
    | refine c_pickY rfl (by first | rfl | assumption) (d_loadD rfl rfl (by first | rfl | (simp only [cellsD]; rfl))) ?_
    | fail)
          refine run_loopS (ι := { q : Nat // q ≤ m.fields.length })
            (fun q => [(2, .dat fSV), (9, .dat (.sl 8 144 (pdMs (M.map nM)))), (10, .dat (.sl 8 144 (pdMs M))), (12, .dat (.val (.int .i64 (k : Nat)))), (88, .dat (.val (.int .i64 ((pdMs (M.map nM)).length : Nat)))), (89, .dat (.val (.int .i64 (k : Nat)))), (138, .dat (.val (.int .i64 ((pdFs (nFs m.fields)).length : Nat)))), (139, .dat (.val (.int .i64 (q.1 : Nat))))])
            (fun q => []) (fun q => m.fields.length - q.1) ⟨0, Nat.zero_le _⟩ id ?_ ?_
          · (refine ⟨?_, ?_, by rfl⟩ <;> repeat' (first | exact trivial | exact ALe.ptr rfl | exact ALe.own rfl | exact ALe.elt rfl | exact BLe.boxD _ _ | exact BLe.row rfl | exact BLe.res | exact ALe.dat (PLe.refl _) | exact CLe.nil | refine And.intro ?_ ?_ | refine ALe.iface ?_ | refine ALe.clo ?_ | refine CLe.cons ?_ ?_ | refine BLe.box ?_ | refine BLe.row ?_ | refine ALe.dat (PLe.of_eq ?_)))
          · rintro ⟨q, hq0⟩
            by_cases hq1 : q < m.fields.length
            · have hcq : decide ((q : Int) < (((pdFs (nFs m.fields)).length : Nat) : Int)) = true := by rw [hnF]; simpa using hq1
              obtain ⟨f, hf⟩ : ∃ f, m.fields[q]? = some f := ⟨m.fields[q], by simp [hq1]⟩
              have hj := pdFs_at hf
              have hj' : (pdFs (nFs m.fields))[((q : Nat) : Int).toNat]? = some (pdF (nF f)) := pdFs_at (by rw [nFs_eq]; simp [hf])
              have cf := cF f (List.mem_of_getElem? hf)
              have ef : pdF (nF f) = qF (nF f) := pdF_eq _
              rw [ef] at hj'
              rw [show pdF f = qF f from pdF_eq _] at hj
              repeat' (first
    | refine run_seq ?_
    | (refine k_pick rfl ?_; first | refine k_assignD rfl rfl ?_ | refine k_moveD rfl rfl ?_ | refine k_bin2B rfl rfl rfl rfl ?_ | refine k_ariI rfl rfl rfl rfl (by first | omega | (dsimp only; omega)) ?_)
    | refine run_opsEnd ?_
    | refine run_region ?_
    | refine run_condT rfl (by first | rfl | assumption) ?_
    | refine run_condF rfl (by first | rfl | assumption) ?_
    | refine run_block ?_
    | refine run_blkEnd ?_
    | refine run_skip ?_
    | refine run_drawC (by kernel_rfl) ?_
    | refine c_nil (And.intro (by kernel_rfl) ?_)
    | refine c_pick (d_indexAddrD rfl rfl rfl (by first | omega | (dsimp only; omega)) (by assumption)) ?_
    | refine c_pick (d_moveD rfl rfl) ?_
    | refine c_pick (d_call rfl (by kernel_rfl) rfl (by first | exact cf)) ?_
    | refine c_pick (d_not rfl rfl) ?_
    | refine c_pick (d_fieldAddrD rfl rfl rfl rfl (by first | rfl | (simp only [cellsD]; rfl))) ?_
    | refine c_pick (d_loadD rfl rfl (by first | rfl | (simp only [cellsD]; rfl))) ?_
    | fail)
              refine run_again ?_
              refine ⟨⟨q + 1, by omega⟩, id, by simp only; omega, ?_⟩
              (refine ⟨?_, ?_, by rfl⟩ <;> repeat' (first | exact trivial | exact ALe.ptr rfl | exact ALe.own rfl | exact ALe.elt rfl | exact BLe.boxD _ _ | exact BLe.row rfl | exact BLe.res | exact ALe.dat (PLe.refl _) | exact CLe.nil | refine And.intro ?_ ?_ | refine ALe.iface ?_ | refine ALe.clo ?_ | refine CLe.cons ?_ ?_ | refine BLe.box ?_ | refine BLe.row ?_ | refine ALe.dat (PLe.of_eq ?_)))
            · have hcq : decide ((q : Int) < (((pdFs (nFs m.fields)).length : Nat) : Int)) = false := by rw [hnF]; simpa using hq1
              repeat' (first
    | refine run_seq ?_
    | (refine k_pick rfl ?_; first | refine k_moveD rfl rfl ?_ | refine k_bin2B rfl rfl rfl rfl ?_ | refine k_ariI rfl rfl rfl rfl (by first | omega | (dsimp only; omega)) ?_)
    | refine run_opsEnd ?_
    | refine run_region ?_
    | refine run_condF rfl (by first | rfl | assumption) ?_
    | refine run_blkEnd ?_
    | refine run_exit rfl ?_
    | fail)
              refine run_again ?_
              refine ⟨⟨k + 1, by omega⟩, id, by simp only; omega, ?_⟩
              (refine ⟨?_, ?_, by rfl⟩ <;> repeat' (first | exact trivial | exact ALe.ptr rfl | exact ALe.own rfl | exact ALe.elt rfl | exact BLe.boxD _ _ | exact BLe.row rfl | exact BLe.res | exact ALe.dat (PLe.refl _) | exact CLe.nil | refine And.intro ?_ ?_ | refine ALe.iface ?_ | refine ALe.clo ?_ | refine CLe.cons ?_ ?_ | refine BLe.box ?_ | refine BLe.row ?_ | refine ALe.dat (PLe.of_eq ?_)))
        · have hc : decide ((k : Int) < (((pdMs (M.map nM)).length : Nat) : Int)) = false := by rw [hnM]; simpa using hlt
          repeat' (first
    | refine run_seq ?_
    | (refine k_pick rfl ?_; first | refine k_assignD rfl rfl ?_ | refine k_bin2B rfl rfl rfl rfl ?_)
    | refine run_opsEnd ?_
    | refine run_region ?_
    | refine run_condF rfl (by first | rfl | assumption) ?_
    | refine run_exit rfl ?_
    | refine run_retOk (resOk_tmp rfl rfl ?_)
    | fail)
          all_goals exact PLe.refl _

end Go.Proofs.Ytlghpcokbppkfaa

/- All the comparisons together; sameField. -/
namespace Go.Proofs.Ytlghpcokbppkfaa
open Go.RowKit
set_option linter.unusedSimpArgs false
set_option maxRecDepth 10000
set_option maxHeartbeats 4000000

mutual
theorem atomsAlike_c : ∀ a : TA, Fits (pdA a) → PCall Try.prog 95 [qA (nA a), qA a, fSV] (.val (.bool true))
  | .mk s l m, h => atomsAlike_p _ (fun x hx => by
      cases l with
      | nil => simp [TA.lists] at hx
      | cons y r => simp [TA.lists] at hx; rw [hx]; exact listAlike_c y ((fits_A h).1 _ (List.mem_cons_self ..))) (fun x hx => by
      cases m with
      | nil => simp [TA.maps] at hx
      | cons y r => simp [TA.maps] at hx; rw [hx]; exact mapAlike_c y ((fits_A h).2 _ (List.mem_cons_self ..)))
theorem refsAlike_c : ∀ x : TR, Fits (pdR x) → PCall Try.prog 84 [qR (nR x), qR x, fSV] (.val (.bool true))
  | .mk _ _ a _, h => refsAlike_p _ (fun _ => atomsAlike_c a (fits_R h))
theorem listAlike_c : ∀ x : TL, Fits (pdL x) → PCall Try.prog 84 [qR (nR x.elem), qR x.elem, fSV] (.val (.bool true))
  | .mk e _ _, h => refsAlike_c e (fits_L h)
theorem mapAlike_c : ∀ x : TM, Fits (pdM x) → PCall Try.prog 84 [qR (nR x.elem), qR x.elem, fSV] (.val (.bool true)) ∧ ∀ f ∈ x.fields, PCall Try.prog 81 [qF (nF f), qF f, fSV] (.val (.bool true))
  | .mk f e _, h => ⟨refsAlike_c e (fits_M h).1, fieldsAlikes_c f (fits_M h).2.2⟩
theorem fieldsAlikes_c : ∀ (l : List TF), (∀ f ∈ l, Fits (pdF f)) → ∀ f ∈ l, PCall Try.prog 81 [qF (nF f), qF f, fSV] (.val (.bool true))
  | [], _, _, h => by cases h
  | x :: r, hf, f, h => by
    rcases List.mem_cons.1 h with h | h
    · rw [h]; exact fieldsAlike_c x (hf x (List.mem_cons_self ..))
    · exact fieldsAlikes_c r (fun f h => hf f (List.mem_cons_of_mem _ h)) f h
theorem fieldsAlike_c : ∀ x : TF, Fits (pdF x) → PCall Try.prog 81 [qF (nF x), qF x, fSV] (.val (.bool true))
  | .mk _ t _, h => fieldsAlike_p _ (refsAlike_c t (fits_F h))
end
/-- sameField answers true on a field that went there and back. -/
theorem sameField_p (f : TF) : PCall Try.prog 29 [qF (nF f), qF f] (.val (.bool true)) := by
  refine pcall_fits fun hfit => ?_
  have c := fieldsAlike_c f (by rw [pdF_eq]; exact hfit (qF f) (by simp))
  unfold fSV at c
  refine pcall_of_run Try.func29 rfl Try.ntmps29 rfl (fun X => ?_)
  repeat' (first
    | refine run_seq ?_
    | (refine k_pick rfl ?_; first | refine k_assignD rfl rfl ?_ | refine k_loadW rfl rfl rfl (by first | rfl | (simp only [cellsD]; rfl)) ?_ | refine k_boxW rfl rfl rfl (by first | rfl | (simp only [cellsD]; rfl)) ?_ | refine k_call rfl (by kernel_rfl) rfl (by first | exact c) ?_)
    | refine run_opsEnd ?_
    | refine run_region ?_
    | refine run_retOk (resOk_tmp rfl rfl ?_)
    | fail)
  all_goals exact PLe.refl _
end Go.Proofs.Ytlghpcokbppkfaa

/- isKey, distinctAny, uniqueFields, zzFits20, OrderlyValues as contracts on data. -/
namespace Go.Proofs.Ytlghpcokbppkfaa
open Go.RowKit
set_option linter.unusedSimpArgs false
set_option maxRecDepth 10000
set_option maxHeartbeats 2000000

theorem ordVals_p (l : List GV) : PCall Try.prog 49 [.sl 6 88 (pdVs l)] (.val (.bool (ordL l))) := by
  intro w F vs hF hv
  unfold Reps at hv
  obtain ⟨v, r', rfl, hx, hr⟩ := hv
  unfold Reps at hr
  subst hr
  unfold Rep at hx
  rw [pdVs_len] at hx
  obtain ⟨a, c, rfl, h1, h2, h3, h4⟩ := hx
  refine (ordVals_any l w a c h2 ?_).mono ?_
  · rcases h4 with h4 | ⟨b, o, hb, rfl, hr⟩
    · left
      cases l with
      | nil => rfl
      | cons _ _ => unfold pdVs at h4; cases h4
    · exact .inr ⟨b, o, ⟨Nat.zero_le _, hF b hb⟩, rfl, IsVs.keep (fun _ _ => rfl) (fun b hb => ⟨Nat.zero_le _, hF b hb⟩) l b o hb (repL_isVs l hr)⟩
  · rintro e w' ⟨he, hb⟩
    exact ⟨_, he, hb, by unfold Rep; exact ⟨rfl, trivial⟩⟩
def inB (x : ByteArray) (ks : List ByteArray) : Bool := ks.any fun k => decide (k = x)
theorem inB_iff {x : ByteArray} {ks : List ByteArray} : inB x ks = true ↔ x ∈ ks := by simp [inB]
theorem inB_not {x : ByteArray} {ks : List ByteArray} (h : x ∉ ks) : inB x ks = false := by
  cases e : inB x ks
  · rfl
  · exact absurd (inB_iff.1 e) h
theorem isKey_p (ks : List ByteArray) (x : ByteArray) : PCall Try.prog 116 [.sl 1 16 (pdS ks), .val (.string x)] (.val (.bool (inB x ks))) := by
  refine pcall_fits fun hfit => ?_
  have hb := (show Fits (.sl 1 16 (pdS ks)) from hfit _ (by simp)).sl
  rw [pdS_len] at hb
  have hb1 := hb.1
  clear hb
  have hlen := pdS_len ks
  refine pcall_of_run Try.func116 rfl Try.ntmps116 rfl (fun X => ?_)
  repeat' (first
    | refine run_seq ?_
    | (refine k_pick rfl ?_; first | refine k_assignD rfl rfl ?_ | refine k_moveD rfl rfl ?_ | refine k_lenD rfl rfl ?_)
    | refine run_opsEnd ?_
    | refine run_region ?_
    | refine run_block ?_
    | fail)
  refine run_loopS (ι := { k : Nat // k ≤ ks.length ∧ x ∉ ks.take k })
    (fun k => [(1, .dat (.val (.string x))), (7, .dat (.sl 1 16 (pdS ks))), (8, .dat (.val (.int .i64 ((pdS ks).length : Nat)))), (9, .dat (.val (.int .i64 (k.1 : Nat))))])
    (fun k => []) (fun k => ks.length - k.1) ⟨0, Nat.zero_le _, by simp⟩ id ?_ ?_
  · (refine ⟨?_, ?_, by rfl⟩ <;> repeat' (first | exact trivial | exact ALe.ptr rfl | exact ALe.own rfl | exact ALe.elt rfl | exact BLe.boxD _ _ | exact BLe.row rfl | exact BLe.res | exact ALe.dat (PLe.refl _) | exact CLe.nil | refine And.intro ?_ ?_ | refine ALe.iface ?_ | refine ALe.clo ?_ | refine CLe.cons ?_ ?_ | refine BLe.box ?_ | refine BLe.row ?_ | refine ALe.dat (PLe.of_eq ?_)))
  · rintro ⟨k, hk, hn⟩
    by_cases hlt : k < ks.length
    · have hc : decide ((k : Int) < (((pdS ks).length : Nat) : Int)) = true := by rw [hlen]; simpa using hlt
      obtain ⟨f, hf⟩ : ∃ f, ks[k]? = some f := ⟨ks[k], by simp [hlt]⟩
      have hi : (pdS ks)[((k : Nat) : Int).toNat]? = some (.val (.string f)) := pdS_at hf
      repeat' (first
    | refine run_seq ?_
    | (refine k_pick rfl ?_; first | refine k_indexAddrD rfl rfl rfl (by first | omega | (dsimp only; omega)) (by assumption) ?_ | refine k_assignD rfl rfl ?_ | refine k_moveD rfl rfl ?_ | refine k_bin2B rfl rfl rfl rfl ?_ | refine k_ariI rfl rfl rfl rfl (by first | omega | (dsimp only; omega)) ?_ | refine k_loadD rfl rfl (by first | rfl | (simp only [cellsD]; rfl)) ?_)
    | refine run_opsEnd ?_
    | refine run_region ?_
    | refine run_condT rfl (by first | rfl | assumption) ?_
    | refine run_cond rfl (fun h => ?_) (fun h => ?_)
    | refine run_block ?_
    | refine run_blkEnd ?_
    | refine run_skip ?_
    | refine run_retOk (resOk_tmp rfl rfl ?_)
    | fail)
      · have e : x ∈ ks := by
          have : f = x := by simpa using h
          exact this ▸ List.mem_of_getElem? hf
        exact PLe.of_eq (by rw [inB_iff.2 e])
      · refine run_again ?_
        refine ⟨⟨k + 1, by omega, ?_⟩, id, by simp only; omega, ?_⟩
        · have hfx : ¬ f = x := by simpa using h
          rw [List.take_add_one, hf]
          simp only [List.mem_append, Option.toList_some, List.mem_singleton]
          rintro (h' | h')
          · exact hn h'
          · exact hfx h'.symm
        (refine ⟨?_, ?_, by rfl⟩ <;> repeat' (first | exact trivial | exact ALe.ptr rfl | exact ALe.own rfl | exact ALe.elt rfl | exact BLe.boxD _ _ | exact BLe.row rfl | exact BLe.res | exact ALe.dat (PLe.refl _) | exact CLe.nil | refine And.intro ?_ ?_ | refine ALe.iface ?_ | refine ALe.clo ?_ | refine CLe.cons ?_ ?_ | refine BLe.box ?_ | refine BLe.row ?_ | refine ALe.dat (PLe.of_eq ?_)))
    · have hc : decide ((k : Int) < (((pdS ks).length : Nat) : Int)) = false := by rw [hlen]; simpa using hlt
      have e : x ∉ ks := by rwa [List.take_of_length_le (by omega)] at hn
      repeat' (first
    | refine run_seq ?_
    | (refine k_pick rfl ?_; first | refine k_assignD rfl rfl ?_ | refine k_bin2B rfl rfl rfl rfl ?_)
    | refine run_opsEnd ?_
    | refine run_region ?_
    | refine run_condF rfl (by first | rfl | assumption) ?_
    | refine run_exit rfl ?_
    | refine run_retOk (resOk_tmp rfl rfl ?_)
    | fail)
      all_goals exact PLe.of_eq (by rw [inB_not e])
theorem distinctAny_p (ks : List ByteArray) : PCall Try.prog 75 [.sl 1 16 (pdS ks)] (.val (.bool (decide ks.Nodup))) := by
  refine pcall_fits fun hfit => ?_
  have hb := (show Fits (.sl 1 16 (pdS ks)) from hfit _ (by simp)).sl
  rw [pdS_len] at hb
  have hb1 := hb.1
  clear hb
  have hlen := pdS_len ks
  refine pcall_of_run Try.func75 rfl Try.ntmps75 rfl (fun X => ?_)
  repeat' (first
    | refine run_seq ?_
    | (refine k_pick rfl ?_; first | refine k_assignD rfl rfl ?_ | refine k_moveD rfl rfl ?_ | refine k_lenD rfl rfl ?_)
    | refine run_opsEnd ?_
    | refine run_region ?_
    | refine run_block ?_
    | fail)
  refine run_loopS (ι := { k : Nat // k ≤ ks.length ∧ (ks.take k).Nodup })
    (fun k => [(0, .dat (.sl 1 16 (pdS ks))), (5, .dat (.sl 1 16 (pdS ks))), (6, .dat (.val (.int .i64 ((pdS ks).length : Nat)))), (7, .dat (.val (.int .i64 (k.1 : Nat))))])
    (fun k => []) (fun k => ks.length - k.1) ⟨0, Nat.zero_le _, by simp⟩ id ?_ ?_
  · (refine ⟨?_, ?_, by rfl⟩ <;> repeat' (first | exact trivial | exact ALe.ptr rfl | exact ALe.own rfl | exact ALe.elt rfl | exact BLe.boxD _ _ | exact BLe.row rfl | exact BLe.res | exact ALe.dat (PLe.refl _) | exact CLe.nil | refine And.intro ?_ ?_ | refine ALe.iface ?_ | refine ALe.clo ?_ | refine CLe.cons ?_ ?_ | refine BLe.box ?_ | refine BLe.row ?_ | refine ALe.dat (PLe.of_eq ?_)))
  · rintro ⟨k, hk, hn⟩
    by_cases hlt : k < ks.length
    · have hc : decide ((k : Int) < (((pdS ks).length : Nat) : Int)) = true := by rw [hlen]; simpa using hlt
      obtain ⟨f, hf⟩ : ∃ f, ks[k]? = some f := ⟨ks[k], by simp [hlt]⟩
      have hi : (pdS ks)[((k : Nat) : Int).toNat]? = some (.val (.string f)) := pdS_at hf
      have cK : PCall Try.prog 116 [.sl 1 16 (((pdS ks).take k).drop 0), .val (.string f)] (.val (.bool (inB f (ks.take k)))) := by
        have := isKey_p (ks.take k) f
        simpa [pdS, List.map_take] using this
      have hk1 : ks.take (k + 1) = ks.take k ++ [f] := by rw [List.take_add_one, hf]; rfl
      repeat' (first
    | refine run_seq ?_
    | (refine k_pick rfl ?_; first | refine k_indexAddrD rfl rfl rfl (by first | omega | (dsimp only; omega)) (by assumption) ?_ | refine k_assignD rfl rfl ?_ | refine k_moveD rfl rfl ?_ | refine k_bin2B rfl rfl rfl rfl ?_ | refine k_call rfl (by kernel_rfl) rfl (by first | exact cK) ?_ | refine k_sliceD rfl rfl rfl rfl (by omega) (by first | omega | (dsimp only; omega)) ?_ | refine k_ariI rfl rfl rfl rfl (by first | omega | (dsimp only; omega)) ?_ | refine k_loadD rfl rfl (by first | rfl | (simp only [cellsD]; rfl)) ?_)
    | refine run_opsEnd ?_
    | refine run_region ?_
    | refine run_condT rfl (by first | rfl | assumption) ?_
    | refine run_cond rfl (fun h => ?_) (fun h => ?_)
    | refine run_block ?_
    | refine run_blkEnd ?_
    | refine run_skip ?_
    | refine run_retOk (resOk_tmp rfl rfl ?_)
    | fail)
      · have e : ¬ ks.Nodup := by
          intro hd
          have hm : f ∈ ks.take k := inB_iff.1 h
          have := (List.take_sublist (k + 1) ks).nodup hd
          rw [hk1, List.nodup_append] at this
          exact this.2.2 _ hm _ (by simp) rfl
        exact PLe.of_eq (by simp [e])
      · refine run_again ?_
        refine ⟨⟨k + 1, by omega, ?_⟩, id, by simp only; omega, ?_⟩
        · have hm : f ∉ ks.take k := fun hm => by rw [inB_iff.2 hm] at h; cases h
          rw [hk1, List.nodup_append]
          exact ⟨hn, by simp, fun a ha b hb => by simp at hb; subst hb; rintro rfl; exact hm ha⟩
        (refine ⟨?_, ?_, by rfl⟩ <;> repeat' (first | exact trivial | exact ALe.ptr rfl | exact ALe.own rfl | exact ALe.elt rfl | exact BLe.boxD _ _ | exact BLe.row rfl | exact BLe.res | exact ALe.dat (PLe.refl _) | exact CLe.nil | refine And.intro ?_ ?_ | refine ALe.iface ?_ | refine ALe.clo ?_ | refine CLe.cons ?_ ?_ | refine BLe.box ?_ | refine BLe.row ?_ | refine ALe.dat (PLe.of_eq ?_)))
    · have hc : decide ((k : Int) < (((pdS ks).length : Nat) : Int)) = false := by rw [hlen]; simpa using hlt
      have e : ks.Nodup := by rwa [List.take_of_length_le (by omega)] at hn
      repeat' (first
    | refine run_seq ?_
    | (refine k_pick rfl ?_; first | refine k_assignD rfl rfl ?_ | refine k_bin2B rfl rfl rfl rfl ?_)
    | refine run_opsEnd ?_
    | refine run_region ?_
    | refine run_condF rfl (by first | rfl | assumption) ?_
    | refine run_exit rfl ?_
    | refine run_retOk (resOk_tmp rfl rfl ?_)
    | fail)
      all_goals exact PLe.of_eq (by simp [e])
theorem uniqueFields_p (m : TM) : PCall Try.prog 26 [pdM m] (.val (.bool (decide (m.fields.map TF.name).Nodup))) := by
  refine pcall_fits fun hfit => ?_
  have hb1 := (fits_M (show Fits (pdM m) from hfit _ (by simp))).2.1
  have hlen := pdFs_len m.fields
  have cD := distinctAny_p (m.fields.map TF.name)
  refine pcall_of_run Try.func26 rfl Try.ntmps26 rfl (fun X => ?_)
  repeat' (first
    | refine run_seq ?_
    | (refine k_pick rfl ?_; first | refine k_assignD rfl rfl ?_ | refine k_moveD rfl rfl ?_ | refine k_fieldAddrB rfl rfl rfl ?_ | refine k_loadBD rfl rfl rfl (by first | rfl | (simp only [pdM_eq, cellsD]; rfl)) ?_ | refine k_boxW rfl rfl rfl (by first | rfl | (simp only [pdM_eq, cellsD]; rfl)) ?_ | refine k_lenD rfl rfl ?_ | refine k_assignO rfl rfl ?_ | refine k_buildSlice rfl rfl (by kernel_rfl) rfl rfl rfl rfl rfl ?_)
    | refine run_opsEnd ?_
    | refine run_region ?_
    | refine run_block ?_
    | fail)
  refine run_loopS (ι := { k : Nat // k ≤ m.fields.length })
    (fun k => [(3, .own 100), (8, .dat (.sl 8 144 (pdFs m.fields))), (9, .dat (.val (.int .i64 ((pdFs m.fields).length : Nat)))), (10, .dat (.val (.int .i64 (k.1 : Nat))))])
    (fun k => [(100, .row 9 1 16 (pdS ((m.fields.take k.1).map TF.name)))]) (fun k => m.fields.length - k.1) ⟨0, Nat.zero_le _⟩ (fun j => if j = 100 then 6 else j) ?_ ?_
  · (refine ⟨?_, ?_, by rfl⟩ <;> repeat' (first | exact trivial | exact ALe.ptr rfl | exact ALe.own rfl | exact ALe.elt rfl | exact BLe.boxD _ _ | exact BLe.row rfl | exact BLe.res | exact ALe.dat (PLe.refl _) | exact CLe.nil | refine And.intro ?_ ?_ | refine ALe.iface ?_ | refine ALe.clo ?_ | refine CLe.cons ?_ ?_ | refine BLe.box ?_ | refine BLe.row ?_ | refine ALe.dat (PLe.of_eq ?_)))
  · rintro ⟨k, hk⟩
    by_cases hlt : k < m.fields.length
    · have hc : decide ((k : Int) < (((pdFs m.fields).length : Nat) : Int)) = true := by rw [hlen]; simpa using hlt
      obtain ⟨f, hf⟩ : ∃ f, m.fields[k]? = some f := ⟨m.fields[k], by simp [hlt]⟩
      have hi : (pdFs m.fields)[((k : Nat) : Int).toNat]? = some (pdF f) := by rw [pdFs_eq]; simp [hf]
      have hbt : ((pdS ((m.fields.take k).map TF.name)).length + [PD.val (.string f.name)].length) * 16 ≤ 140737488351232 := by simp [pdS]; omega
      have hbl : (pdS ((m.fields.take k).map TF.name)).length + [PD.val (.string f.name)].length ≤ 140737488351232 := by simp [pdS]; omega
      repeat' (first
    | refine run_seq ?_
    | (refine k_pick rfl ?_; first | refine k_indexAddrD rfl rfl rfl (by first | omega | (dsimp only; omega)) (by assumption) ?_ | refine k_appendOO rfl rfl rfl rfl rfl rfl (by kernel_rfl) rfl rfl hbt hbl ?_ | refine k_moveD rfl rfl ?_ | refine k_fieldAddrB rfl rfl rfl ?_ | refine k_loadBD rfl rfl rfl (by first | rfl | (simp only [pdF_eq, cellsD]; rfl)) ?_ | refine k_bin2B rfl rfl rfl rfl ?_ | refine k_storeW rfl rfl rfl (by first | rfl | (simp only [pdF_eq, cellsD]; rfl)) (by first | rfl | (simp only [pdF_eq, cellsD]; rfl)) rfl ?_ | refine k_ariI rfl rfl rfl rfl (by first | omega | (dsimp only; omega)) ?_ | refine k_loadD rfl rfl (by first | rfl | (simp only [pdF_eq, cellsD]; rfl)) ?_ | refine k_alloc rfl rfl ?_ | refine k_assignO rfl rfl ?_ | refine k_moveO rfl rfl ?_ | refine k_buildSlice rfl rfl (by kernel_rfl) rfl rfl rfl rfl rfl ?_)
    | refine run_opsEnd ?_
    | refine run_region ?_
    | refine run_condT rfl (by first | rfl | assumption) ?_
    | refine run_block ?_
    | refine run_blkEnd ?_
    | refine run_skip ?_
    | fail)
      refine run_again ?_
      refine ⟨⟨k + 1, by omega⟩, (fun j => if j = 100 then 18 else j), by simp only; omega, ?_⟩
      (refine ⟨?_, ?_, by rfl⟩ <;> repeat' (first | exact trivial | exact ALe.ptr rfl | exact ALe.own rfl | exact ALe.elt rfl | exact BLe.boxD _ _ | exact BLe.row rfl | exact BLe.res | exact ALe.dat (PLe.refl _) | exact CLe.nil | refine And.intro ?_ ?_ | refine ALe.iface ?_ | refine ALe.clo ?_ | refine CLe.cons ?_ ?_ | refine BLe.box ?_ | refine BLe.row ?_ | refine ALe.dat (PLe.of_eq ?_)))
      all_goals (simp [pdS, List.take_add_one, hf])
    · have hc : decide ((k : Int) < (((pdFs m.fields).length : Nat) : Int)) = false := by rw [hlen]; simpa using hlt
      have hkk : m.fields.take k = m.fields := List.take_of_length_le (by omega)
      simp only [hkk]
      refine run_frz (fun _ => false) (fun k => k == 100) ?_
      repeat' (first
    | refine run_seq ?_
    | (refine k_pick rfl ?_; first | refine k_assignD rfl rfl ?_ | refine k_moveD rfl rfl ?_ | refine k_bin2B rfl rfl rfl rfl ?_ | refine k_call rfl (by kernel_rfl) rfl (by first | exact cD) ?_)
    | refine run_opsEnd ?_
    | refine run_region ?_
    | refine run_condF rfl (by first | rfl | assumption) ?_
    | refine run_exit rfl ?_
    | refine run_retOk (resOk_tmp rfl rfl ?_)
    | fail)
      all_goals exact PLe.refl _
theorem fits20_p (m : TM) : ∃ b, PCall Try.prog 25 [pdM m] (.val (.bool b)) := by
  by_cases h1 : (2147483647 : Int) < ((pdFs m.fields).length : Nat)
  · refine ⟨false, ?_⟩
    have e1 : decide ((2147483647 : Int) < ((pdFs m.fields).length : Nat)) = true := by simpa using h1
    refine pcall_of_run Try.func25 rfl Try.ntmps25 rfl (fun X => ?_)
    repeat' (first
    | refine run_seq ?_
    | (refine k_pick rfl ?_; first | refine k_assignD rfl rfl ?_ | refine k_fieldAddrB rfl rfl rfl ?_ | refine k_loadBD rfl rfl rfl (by first | rfl | (simp only [pdM_eq, cellsD]; rfl)) ?_ | refine k_bin2B rfl rfl rfl rfl ?_ | refine k_boxW rfl rfl rfl (by first | rfl | (simp only [pdM_eq, cellsD]; rfl)) ?_ | refine k_lenD rfl rfl ?_)
    | refine run_opsEnd ?_
    | refine run_region ?_
    | refine run_condT rfl (by first | rfl | assumption) ?_
    | refine run_retOk (resOk_tmp rfl rfl ?_)
    | fail)
    all_goals exact PLe.refl _
  · have e1 : decide ((2147483647 : Int) < ((pdFs m.fields).length : Nat)) = false := by simpa using h1
    by_cases h2 : (2147483647 : Int) < (m.rel.size : Nat)
    · refine ⟨false, ?_⟩
      have e2 : decide ((2147483647 : Int) < (m.rel.size : Nat)) = true := by simpa using h2
      refine pcall_of_run Try.func25 rfl Try.ntmps25 rfl (fun X => ?_)
      repeat' (first
    | refine run_seq ?_
    | (refine k_pick rfl ?_; first | refine k_assignD rfl rfl ?_ | refine k_fieldAddrB rfl rfl rfl ?_ | refine k_loadBD rfl rfl rfl (by first | rfl | (simp only [pdM_eq, cellsD]; rfl)) ?_ | refine k_bin2B rfl rfl rfl rfl ?_ | refine k_boxW rfl rfl rfl (by first | rfl | (simp only [pdM_eq, cellsD]; rfl)) ?_ | refine k_lenS rfl rfl (by kernel_rfl) ?_ | refine k_lenD rfl rfl ?_)
    | refine run_opsEnd ?_
    | refine run_region ?_
    | refine run_condT rfl (by first | rfl | assumption) ?_
    | refine run_condF rfl (by first | rfl | assumption) ?_
    | refine run_skip ?_
    | refine run_retOk (resOk_tmp rfl rfl ?_)
    | fail)
      all_goals exact PLe.refl _
    · refine ⟨true, ?_⟩
      have e2 : decide ((2147483647 : Int) < (m.rel.size : Nat)) = false := by simpa using h2
      refine pcall_of_run Try.func25 rfl Try.ntmps25 rfl (fun X => ?_)
      repeat' (first
    | refine run_seq ?_
    | (refine k_pick rfl ?_; first | refine k_assignD rfl rfl ?_ | refine k_fieldAddrB rfl rfl rfl ?_ | refine k_loadBD rfl rfl rfl (by first | rfl | (simp only [pdM_eq, cellsD]; rfl)) ?_ | refine k_bin2B rfl rfl rfl rfl ?_ | refine k_boxW rfl rfl rfl (by first | rfl | (simp only [pdM_eq, cellsD]; rfl)) ?_ | refine k_lenS rfl rfl (by kernel_rfl) ?_ | refine k_lenD rfl rfl ?_)
    | refine run_opsEnd ?_
    | refine run_region ?_
    | refine run_condF rfl (by first | rfl | assumption) ?_
    | refine run_skip ?_
    | refine run_retOk (resOk_tmp rfl rfl ?_)
    | fail)
      all_goals exact PLe.refl _
end Go.Proofs.Ytlghpcokbppkfaa

/- definedAtom. -/
namespace Go.Proofs.Ytlghpcokbppkfaa
open Go.RowKit
set_option linter.unusedSimpArgs false
set_option maxRecDepth 10000
set_option maxHeartbeats 4000000

def defA : Nat → TA → Bool
  | 0, _ => false
  | d + 1, a => ((a.lists.take 1).all fun l => defA d l.elem.atom) && ((a.maps.take 1).all fun m => defA d m.elem.atom && m.fields.all fun f => ordL (f.dflt.take 1) && defA d f.type.atom)
theorem all_take {α : Type} {p : α → Bool} {l : List α} {k : Nat} {x : α} (h : (l.take k).all p = true) (hx : l[k]? = some x) (hp : p x = true) : (l.take (k + 1)).all p = true := by
  rw [List.take_add_one, hx]
  rw [List.all_append, h]
  simp [hp]
theorem all_not {α : Type} {p : α → Bool} {l : List α} {k : Nat} {x : α} (hx : l[k]? = some x) (hp : p x = false) : l.all p = false := by
  cases e : l.all p
  · rfl
  · rw [List.all_eq_true.1 e x (List.mem_of_getElem? hx)] at hp; cases hp
theorem pdLs_lenN (l : List TL) : (pdLs l).length = l.length := by rw [pdLs_eq]; simp
theorem pdMs_lenN (l : List TM) : (pdMs l).length = l.length := by rw [pdMs_eq]; simp
theorem defined_zero (a : TA) : PCall Try.prog 27 [qA a, .val (.int .i64 ((0 : Nat) : Int))] (.val (.bool false)) := by
  have h : decide (((0 : Nat) : Int) ≤ (0 : Int)) = true := by decide
  refine pcall_of_run Try.func27 rfl Try.ntmps27 rfl (fun X => ?_)
  repeat' (first
    | refine run_seq ?_
    | (refine k_pick rfl ?_; first | refine k_assignD rfl rfl ?_ | refine k_moveD rfl rfl ?_ | refine k_bin2B rfl rfl rfl rfl ?_ | refine k_boxW rfl rfl rfl (by first | rfl | (simp only [cellsD]; rfl)) ?_)
    | refine run_opsEnd ?_
    | refine run_region ?_
    | refine run_condT rfl (by first | rfl | assumption) ?_
    | refine run_retOk (resOk_tmp rfl rfl ?_)
    | fail)
  all_goals exact PLe.refl _
theorem defined_succ (d : Nat) (ih : ∀ a : TA, PCall Try.prog 27 [qA a, .val (.int .i64 (((d + 1 : Nat) : Int) - 1))] (.val (.bool (defA d a)))) (a : TA) :
    PCall Try.prog 27 [qA a, .val (.int .i64 ((d + 1 : Nat) : Int))] (.val (.bool (defA (d + 1) a))) := by
  refine pcall_fits fun hfit => ?_
  have hka := (show Fits (pdA a) from by rw [pdA_eq]; exact hfit (qA a) (by simp))
  have hd0 := (show Fits (.val (.int .i64 ((d + 1 : Nat) : Int))) from hfit _ (by simp)).int
  have hdb : ((d + 1 : Nat) : Int) ≤ 9223372036854775807 := by
    simp [Lit.wf, IntKind.min, IntKind.max, IntKind.bits, IntKind.signed] at hd0
    omega
  clear hd0
  have c2 := firstList_p a
  have c4 := firstMap_p a
  have e2 : pdA a = qA a := pdA_eq _
  rw [e2] at c2 c4
  have fM := (fits_A hka).2
  have hML : ∀ m ∈ a.maps.take 1, m.fields.length * 144 ≤ 140737488351232 := fun m hm => (fits_M (fM m (List.take_subset _ _ hm))).2.1
  have hLl : (a.lists.take 1).length ≤ 1 := by simp; omega
  have hMl : (a.maps.take 1).length ≤ 1 := by simp; omega
  clear hfit hka fM
  have h0 : decide (((d + 1 : Nat) : Int) ≤ (0 : Int)) = false := by simp <;> omega
  rw [show defA (d + 1) a = (((a.lists.take 1).all fun l => defA d l.elem.atom) && ((a.maps.take 1).all fun m => defA d m.elem.atom && m.fields.all fun f => ordL (f.dflt.take 1) && defA d f.type.atom)) from rfl]
  generalize hLe : a.lists.take 1 = L at *
  generalize hMe : a.maps.take 1 = M at *
  have hnL := pdLs_lenN L
  have hnM := pdMs_lenN M
  refine pcall_of_run Try.func27 rfl Try.ntmps27 rfl (fun X => ?_)
  repeat' (first
    | refine run_seq ?_
    | (refine k_pick rfl ?_; first | refine k_assignD rfl rfl ?_ | refine k_moveD rfl rfl ?_ | refine k_loadW rfl rfl rfl (by first | rfl | (simp only [cellsD]; rfl)) ?_ | refine k_bin2B rfl rfl rfl rfl ?_ | refine k_boxW rfl rfl rfl (by first | rfl | (simp only [cellsD]; rfl)) ?_ | refine k_call rfl (by kernel_rfl) rfl (by first | exact c2 | exact c4) ?_ | refine k_lenD rfl rfl ?_)
    | refine run_opsEnd ?_
    | refine run_region ?_
    | refine run_condF rfl (by first | rfl | assumption) ?_
    | refine run_block ?_
    | refine run_skip ?_
    | fail)
  refine run_loopS (ι := { k : Nat // k ≤ L.length ∧ ((L.take k).all fun l => defA d l.elem.atom) = true })
    (fun k => [(1, .dat (.val (.int .i64 ((d + 1 : Nat) : Int)))), (2, .ptr 2 0), (14, .dat (.sl 8 144 (pdLs L))), (15, .dat (.val (.int .i64 ((pdLs L).length : Nat)))), (16, .dat (.val (.int .i64 (k.1 : Nat))))])
    (fun k => [(2, .box 41 [.dat (.val (.string a.scalar)), .dat (.sl 8 144 (pdLs a.lists)), .dat (.sl 8 144 (pdMs a.maps))])]) (fun k => L.length - k.1) ⟨0, Nat.zero_le _, by simp⟩ id ?_ ?_
  · (refine ⟨?_, ?_, by rfl⟩ <;> repeat' (first | exact trivial | exact ALe.ptr rfl | exact ALe.own rfl | exact ALe.elt rfl | exact BLe.boxD _ _ | exact BLe.row rfl | exact BLe.res | exact ALe.dat (PLe.refl _) | exact CLe.nil | refine And.intro ?_ ?_ | refine ALe.iface ?_ | refine ALe.clo ?_ | refine CLe.cons ?_ ?_ | refine BLe.box ?_ | refine BLe.row ?_ | refine ALe.dat (PLe.of_eq ?_)))
    all_goals trace_state
  · rintro ⟨k, hk, hall⟩
    by_cases hlt : k < L.length
    · have hc : decide ((k : Int) < (((pdLs L).length : Nat) : Int)) = true := by rw [hnL]; simpa using hlt
      obtain ⟨l, hl⟩ : ∃ l, L[k]? = some l := ⟨L[k], by simp [hlt]⟩
      have hi : (pdLs L)[((k : Nat) : Int).toNat]? = some (pdL l) := by rw [pdLs_eq]; simp [hl]
      have cA := ih l.elem.atom
      repeat' (first
    | refine run_seq ?_
    | (refine k_pick rfl ?_; first | refine k_indexAddrD rfl rfl rfl (by first | omega | (dsimp only; omega)) (by assumption) ?_ | refine k_assignD rfl rfl ?_ | refine k_moveD rfl rfl ?_ | refine k_fieldAddrB rfl rfl rfl ?_ | refine k_loadBD rfl rfl rfl (by first | rfl | (simp only [pdL_eq, cellsD]; rfl)) ?_ | refine k_bin2B rfl rfl rfl rfl ?_ | refine k_call rfl (by kernel_rfl) rfl (by first | exact cA | (simp only [← pdL_eq]; exact cA)) ?_ | refine k_not rfl rfl ?_ | refine k_storeW rfl rfl rfl (by first | rfl | (simp only [pdL_eq, cellsD]; rfl)) (by first | rfl | (simp only [pdL_eq, cellsD]; rfl)) rfl ?_ | refine k_ariI rfl rfl rfl rfl (by first | omega | (dsimp only; omega)) ?_ | refine k_loadD rfl rfl (by first | rfl | (simp only [pdL_eq, cellsD]; rfl)) ?_ | refine k_alloc rfl rfl ?_)
    | refine run_opsEnd ?_
    | refine run_region ?_
    | refine run_condT rfl (by first | rfl | assumption) ?_
    | refine run_cond rfl (fun h => ?_) (fun h => ?_)
    | refine run_block ?_
    | refine run_blkEnd ?_
    | refine run_skip ?_
    | refine run_retOk (resOk_tmp rfl rfl ?_)
    | fail)
      · have e := all_not (p := fun l => defA d l.elem.atom) hl (by simpa using h)
        exact PLe.of_eq (by rw [e]; rfl)
      · refine run_again ?_
        refine ⟨⟨k + 1, by omega, all_take (p := fun l => defA d l.elem.atom) hall hl (by simpa using h)⟩, id, by simp only; omega, ?_⟩
        (refine ⟨?_, ?_, by rfl⟩ <;> repeat' (first | exact trivial | exact ALe.ptr rfl | exact ALe.own rfl | exact ALe.elt rfl | exact BLe.boxD _ _ | exact BLe.row rfl | exact BLe.res | exact ALe.dat (PLe.refl _) | exact CLe.nil | refine And.intro ?_ ?_ | refine ALe.iface ?_ | refine ALe.clo ?_ | refine CLe.cons ?_ ?_ | refine BLe.box ?_ | refine BLe.row ?_ | refine ALe.dat (PLe.of_eq ?_)))
    · have hc : decide ((k : Int) < (((pdLs L).length : Nat) : Int)) = false := by rw [hnL]; simpa using hlt
      have eL : (L.all fun l => defA d l.elem.atom) = true := by rwa [List.take_of_length_le (by omega)] at hall
      rw [eL]
      repeat' (first
    | refine run_seq ?_
    | (refine k_pick rfl ?_; first | refine k_moveD rfl rfl ?_ | refine k_loadBD rfl rfl rfl (by first | rfl | (simp only [cellsD]; rfl)) ?_ | refine k_bin2B rfl rfl rfl rfl ?_ | refine k_call rfl (by kernel_rfl) rfl (by first | exact c4) ?_ | refine k_lenD rfl rfl ?_)
    | refine run_opsEnd ?_
    | refine run_region ?_
    | refine run_condF rfl (by first | rfl | assumption) ?_
    | refine run_block ?_
    | refine run_exit rfl ?_
    | fail)
      refine run_loopS (ι := { k : Nat // k ≤ M.length ∧ ((M.take k).all fun m => defA d m.elem.atom && m.fields.all fun f => ordL (f.dflt.take 1) && defA d f.type.atom) = true })
        (fun k => [(1, .dat (.val (.int .i64 ((d + 1 : Nat) : Int)))), (29, .dat (.sl 8 144 (pdMs M))), (30, .dat (.val (.int .i64 ((pdMs M).length : Nat)))), (31, .dat (.val (.int .i64 (k.1 : Nat))))])
        (fun k => []) (fun k => M.length - k.1) ⟨0, Nat.zero_le _, by simp⟩ id ?_ ?_
      · (refine ⟨?_, ?_, by rfl⟩ <;> repeat' (first | exact trivial | exact ALe.ptr rfl | exact ALe.own rfl | exact ALe.elt rfl | exact BLe.boxD _ _ | exact BLe.row rfl | exact BLe.res | exact ALe.dat (PLe.refl _) | exact CLe.nil | refine And.intro ?_ ?_ | refine ALe.iface ?_ | refine ALe.clo ?_ | refine CLe.cons ?_ ?_ | refine BLe.box ?_ | refine BLe.row ?_ | refine ALe.dat (PLe.of_eq ?_)))
      · clear hlt hc
        rintro ⟨k, hk, hall⟩
        by_cases hlt : k < M.length
        · have hc : decide ((k : Int) < (((pdMs M).length : Nat) : Int)) = true := by rw [hnM]; simpa using hlt
          obtain ⟨m, hm⟩ : ∃ m, M[k]? = some m := ⟨M[k], by simp [hlt]⟩
          have hi : (pdMs M)[((k : Nat) : Int).toNat]? = some (pdM m) := by rw [pdMs_eq]; simp [hm]
          have cA := ih m.elem.atom
          have hbF := hML m (List.mem_of_getElem? hm)
          have hnF := pdFs_len m.fields
          repeat' (first
    | refine run_seq ?_
    | (refine k_pick rfl ?_; first | refine k_indexAddrD rfl rfl rfl (by first | omega | (dsimp only; omega)) (by assumption) ?_ | refine k_assignD rfl rfl ?_ | refine k_moveD rfl rfl ?_ | refine k_fieldAddrB rfl rfl rfl ?_ | refine k_loadBD rfl rfl rfl (by first | rfl | (simp only [pdM_eq, cellsD]; rfl)) ?_ | refine k_bin2B rfl rfl rfl rfl ?_ | refine k_call rfl (by kernel_rfl) rfl (by first | exact cA | (simp only [← pdM_eq]; exact cA)) ?_ | refine k_lenD rfl rfl ?_ | refine k_not rfl rfl ?_ | refine k_storeW rfl rfl rfl (by first | rfl | (simp only [pdM_eq, cellsD]; rfl)) (by first | rfl | (simp only [pdM_eq, cellsD]; rfl)) rfl ?_ | refine k_ariI rfl rfl rfl rfl (by first | omega | (dsimp only; omega)) ?_ | refine k_loadD rfl rfl (by first | rfl | (simp only [pdM_eq, cellsD]; rfl)) ?_ | refine k_alloc rfl rfl ?_)
    | refine run_opsEnd ?_
    | refine run_region ?_
    | refine run_condT rfl (by first | rfl | assumption) ?_
    | refine run_cond rfl (fun h => ?_) (fun h => ?_)
    | refine run_block ?_
    | refine run_skip ?_
    | refine run_retOk (resOk_tmp rfl rfl ?_)
    | fail)
          · have e := all_not (p := fun m : TM => defA d m.elem.atom && m.fields.all fun f => ordL (f.dflt.take 1) && defA d f.type.atom) hm (by
              have hh : defA d m.elem.atom = false := by simpa using h
              simp only [hh, Bool.false_and])
            exact PLe.of_eq (by rw [e]; rfl)
          · have hm1 : defA d m.elem.atom = true := by simpa using h
            refine run_loopS (ι := { q : Nat // q ≤ m.fields.length ∧ ((m.fields.take q).all fun f => ordL (f.dflt.take 1) && defA d f.type.atom) = true })
              (fun q => [(1, .dat (.val (.int .i64 ((d + 1 : Nat) : Int)))), (29, .dat (.sl 8 144 (pdMs M))), (30, .dat (.val (.int .i64 ((pdMs M).length : Nat)))), (31, .dat (.val (.int .i64 (k : Nat)))), (43, .dat (.sl 8 144 (pdFs m.fields))), (44, .dat (.val (.int .i64 ((pdFs m.fields).length : Nat)))), (45, .dat (.val (.int .i64 (q.1 : Nat))))])
              (fun q => []) (fun q => m.fields.length - q.1) ⟨0, Nat.zero_le _, by simp⟩ id ?_ ?_
            · (refine ⟨?_, ?_, by rfl⟩ <;> repeat' (first | exact trivial | exact ALe.ptr rfl | exact ALe.own rfl | exact ALe.elt rfl | exact BLe.boxD _ _ | exact BLe.row rfl | exact BLe.res | exact ALe.dat (PLe.refl _) | exact CLe.nil | refine And.intro ?_ ?_ | refine ALe.iface ?_ | refine ALe.clo ?_ | refine CLe.cons ?_ ?_ | refine BLe.box ?_ | refine BLe.row ?_ | refine ALe.dat (PLe.of_eq ?_)))
            · rintro ⟨q, hq0, hallq⟩
              by_cases hq1 : q < m.fields.length
              · have hcq : decide ((q : Int) < (((pdFs m.fields).length : Nat) : Int)) = true := by rw [hnF]; simpa using hq1
                obtain ⟨f, hf⟩ : ∃ f, m.fields[q]? = some f := ⟨m.fields[q], by simp [hq1]⟩
                have hj : (pdFs m.fields)[((q : Nat) : Int).toNat]? = some (pdF f) := by rw [pdFs_eq]; simp [hf]
                have cf := ih f.type.atom
                have cO : PCall Try.prog 49 [.sl 6 88 (((pdVs f.dflt).take (min 1 (pdVs f.dflt).length)).drop 0)] (.val (.bool (ordL (f.dflt.take 1)))) := by
                  have := ordVals_p (f.dflt.take 1)
                  rwa [List.drop_zero, take_min1, pdVs_eq, ← List.map_take, ← pdVs_eq]
                repeat' (first
    | refine run_seq ?_
    | (refine k_pick rfl ?_; first | refine k_indexAddrD rfl rfl rfl (by first | omega | (dsimp only; omega)) (by assumption) ?_ | refine k_assignD rfl rfl ?_ | refine k_moveD rfl rfl ?_ | refine k_fieldAddrB rfl rfl rfl ?_ | refine k_loadBD rfl rfl rfl (by first | rfl | (simp only [pdF_eq, cellsD]; rfl)) ?_ | refine k_bin2B rfl rfl rfl rfl ?_ | refine k_pickT rfl rfl (by first | rfl | assumption) rfl ?_ | refine k_pickF rfl rfl (by first | rfl | assumption) rfl ?_ | refine k_call rfl (by kernel_rfl) rfl (by first | exact cf | (simp only [← pdF_eq]; exact cf) | exact cO | (simp only [← pdF_eq]; exact cO)) ?_ | refine k_min1 rfl rfl rfl ?_ | refine k_sliceD rfl rfl rfl rfl (by omega) (by first | omega | (dsimp only; omega)) ?_ | refine k_lenD rfl rfl ?_ | refine k_not rfl rfl ?_ | refine k_storeW rfl rfl rfl (by first | rfl | (simp only [pdF_eq, cellsD]; rfl)) (by first | rfl | (simp only [pdF_eq, cellsD]; rfl)) rfl ?_ | refine k_ariI rfl rfl rfl rfl (by first | omega | (dsimp only; omega)) ?_ | refine k_loadD rfl rfl (by first | rfl | (simp only [pdF_eq, cellsD]; rfl)) ?_ | refine k_alloc rfl rfl ?_)
    | refine run_opsEnd ?_
    | refine run_region ?_
    | refine run_condT rfl (by first | rfl | assumption) ?_
    | refine run_cond rfl (fun h => ?_) (fun h => ?_)
    | (refine k_guardY rfl rfl (by first | rfl | assumption) ?_; first | refine k_moveD rfl rfl ?_ | refine k_fieldAddrB rfl rfl rfl ?_ | refine k_loadBD rfl rfl rfl (by first | rfl | (simp only [pdF_eq, cellsD]; rfl)) ?_ | refine k_call rfl (by kernel_rfl) rfl (by first | exact cf | (simp only [← pdF_eq]; exact cf) | exact cO | (simp only [← pdF_eq]; exact cO)) ?_ | refine k_not rfl rfl ?_ | refine k_ariI rfl rfl rfl rfl (by first | omega | (dsimp only; omega)) ?_)
    | refine k_guardNF rfl rfl (by first | rfl | assumption) rfl ?_
    | refine k_guardF rfl rfl rfl (fun h => ?_) (fun h => ?_)
    | refine run_block ?_
    | refine run_blkEnd ?_
    | refine run_skip ?_
    | refine run_retOk (resOk_tmp rfl rfl ?_)
    | (refine k_fieldAddrB rfl rfl rfl ?_)
    | fail)
                all_goals first
                  | (have e1 := all_not (p := fun f : TF => ordL (f.dflt.take 1) && defA d f.type.atom) hf (by have hx := h; simp at hx; simp [hx])
                     have e := all_not (p := fun m : TM => defA d m.elem.atom && m.fields.all fun f => ordL (f.dflt.take 1) && defA d f.type.atom) hm (by simp only [e1, Bool.and_false])
                     exact PLe.of_eq (by rw [e]; rfl))
                  | (rename_i ho
                     have hf1 : (ordL (f.dflt.take 1) && defA d f.type.atom) = true := by
                       have hx := h
                       have hy := ho
                       simp at hx hy
                       simp [hx, hy]
                     refine run_again ?_
                     refine ⟨⟨q + 1, by omega, all_take (p := fun f : TF => ordL (f.dflt.take 1) && defA d f.type.atom) hallq hf hf1⟩, id, by simp only; omega, ?_⟩
                     (refine ⟨?_, ?_, by rfl⟩ <;> repeat' (first | exact trivial | exact ALe.ptr rfl | exact ALe.own rfl | exact ALe.elt rfl | exact BLe.boxD _ _ | exact BLe.row rfl | exact BLe.res | exact ALe.dat (PLe.refl _) | exact CLe.nil | refine And.intro ?_ ?_ | refine ALe.iface ?_ | refine ALe.clo ?_ | refine CLe.cons ?_ ?_ | refine BLe.box ?_ | refine BLe.row ?_ | refine ALe.dat (PLe.of_eq ?_))))
              · have hcq : decide ((q : Int) < (((pdFs m.fields).length : Nat) : Int)) = false := by rw [hnF]; simpa using hq1
                have eF : (m.fields.all fun f => ordL (f.dflt.take 1) && defA d f.type.atom) = true := by rwa [List.take_of_length_le (by omega)] at hallq
                repeat' (first
    | refine run_seq ?_
    | (refine k_pick rfl ?_; first | refine k_moveD rfl rfl ?_ | refine k_bin2B rfl rfl rfl rfl ?_ | refine k_ariI rfl rfl rfl rfl (by first | omega | (dsimp only; omega)) ?_)
    | refine run_opsEnd ?_
    | refine run_region ?_
    | refine run_condF rfl (by first | rfl | assumption) ?_
    | refine run_blkEnd ?_
    | refine run_exit rfl ?_
    | fail)
                refine run_again ?_
                refine ⟨⟨k + 1, by omega, all_take (p := fun m : TM => defA d m.elem.atom && m.fields.all fun f => ordL (f.dflt.take 1) && defA d f.type.atom) hall hm (by simp only [hm1, eF, Bool.and_self])⟩, id, by simp only; omega, ?_⟩
                (refine ⟨?_, ?_, by rfl⟩ <;> repeat' (first | exact trivial | exact ALe.ptr rfl | exact ALe.own rfl | exact ALe.elt rfl | exact BLe.boxD _ _ | exact BLe.row rfl | exact BLe.res | exact ALe.dat (PLe.refl _) | exact CLe.nil | refine And.intro ?_ ?_ | refine ALe.iface ?_ | refine ALe.clo ?_ | refine CLe.cons ?_ ?_ | refine BLe.box ?_ | refine BLe.row ?_ | refine ALe.dat (PLe.of_eq ?_)))
        · have hc : decide ((k : Int) < (((pdMs M).length : Nat) : Int)) = false := by rw [hnM]; simpa using hlt
          have eM := hall
          rw [List.take_of_length_le (by omega)] at eM
          repeat' (first
    | refine run_seq ?_
    | (refine k_pick rfl ?_; first | refine k_assignD rfl rfl ?_ | refine k_bin2B rfl rfl rfl rfl ?_)
    | refine run_opsEnd ?_
    | refine run_region ?_
    | refine run_condF rfl (by first | rfl | assumption) ?_
    | refine run_exit rfl ?_
    | refine run_retOk (resOk_tmp rfl rfl ?_)
    | fail)
          all_goals exact PLe.of_eq (by rw [eM]; rfl)
theorem defined_p : ∀ (d : Nat) (a : TA), PCall Try.prog 27 [qA a, .val (.int .i64 (d : Int))] (.val (.bool (defA d a)))
  | 0, a => defined_zero a
  | d + 1, a => defined_succ d (fun a => by
      have := defined_p d a
      rwa [show ((d + 1 : Nat) : Int) - 1 = (d : Int) by omega]) a
end Go.Proofs.Ytlghpcokbppkfaa

/- The law FnFindFieldFinds answers true. -/
namespace Go.Proofs.Ytlghpcokbppkfaa
open Go.RowKit
set_option linter.unusedSimpArgs false
set_option maxRecDepth 10000
set_option maxHeartbeats 4000000

theorem pcall_arg0 {P : Program} {f : FuncId} {d d' r : PD} {ds : List PD} (hle : PLe d d') (h : PCall P f (d' :: ds) r) : PCall P f (d :: ds) r := by
  intro w F vs hF hv
  refine h w F vs hF ?_
  unfold Reps at hv ⊢
  obtain ⟨v, r', e, h1, h2⟩ := hv
  exact ⟨v, r', e, hle _ _ _ h1, h2⟩
theorem lastF_none {nm : ByteArray} : ∀ {l : List TF}, (∀ f ∈ l, f.name ≠ nm) → lastF l nm = none
  | [], _ => rfl
  | x :: r, h => by
    show (match lastF r nm with | some f => some f | none => if x.name = nm then some x else none) = _
    rw [lastF_none fun f hf => h f (List.mem_cons_of_mem _ hf)]
    exact if_neg (h x (List.mem_cons_self ..))
theorem lastF_nodup {nm : ByteArray} {f : TF} : ∀ {l : List TF}, (l.map TF.name).Nodup → f ∈ l → f.name = nm → lastF l nm = some f
  | x :: r, hd, hf, hn => by
    show (match lastF r nm with | some f => some f | none => if x.name = nm then some x else none) = _
    rw [List.map_cons, List.nodup_cons] at hd
    rcases List.mem_cons.1 hf with rfl | hf
    · rw [lastF_none fun g hg e => hd.1 (by rw [hn, ← e]; exact List.mem_map_of_mem hg)]
      exact if_pos hn
    · rw [lastF_nodup hd.2 hf hn]
theorem law_p (m : TM) (nm : ByteArray) : PCall Try.prog 6 [qM m, .val (.string nm)] (.val (.bool true)) := by
  refine pcall_fits fun hfit => ?_
  have hb1 := (fits_M (show Fits (pdM m) from by rw [pdM_eq]; exact hfit (qM m) (by simp))).2.1
  have hlen := pdFs_len m.fields
  obtain ⟨b0, c0⟩ := fits20_p m
  have cU := uniqueFields_p m
  have cI := find_p m nm
  have eq : pdM m = qM m := pdM_eq m
  rw [eq] at c0 cU cI
  have cD : PCall Try.prog 27 [.agg [.val (.string ⟨#[]⟩), .val (.slice none 0 0), .sl 8 144 [qM m]], .val (.int .i64 20)] (.val (.bool (defA 20 (.mk ⟨#[]⟩ [] [m])))) := by
    refine pcall_arg0 ?_ (defined_p 20 (.mk ⟨#[]⟩ [] [m]))
    refine PLe.aggs ⟨PLe.refl _, ?_, PLe.of_eq ?_, trivial⟩
    · show PLe _ (.sl 8 144 (pdLs [])); simp only [pdLs]; exact PLe.nil _ _
    · show _ = PD.sl 8 144 (pdMs [m]); simp only [pdMs, eq]
  generalize defA 20 (.mk ⟨#[]⟩ [] [m]) = bd at cD
  refine pcall_of_run Try.func6 rfl Try.ntmps6 rfl (fun X => ?_)
  cases b0
  · repeat' (first
    | refine run_seq ?_
    | (refine k_pick rfl ?_; first | refine k_assignD rfl rfl ?_ | refine k_moveD rfl rfl ?_ | refine k_loadW rfl rfl rfl (by first | rfl | (simp only [cellsD]; rfl)) ?_ | refine k_pickT rfl rfl (by first | rfl | assumption) rfl ?_ | refine k_boxW rfl rfl rfl (by first | rfl | (simp only [cellsD]; rfl)) ?_ | refine k_call rfl (by kernel_rfl) rfl (by first | exact c0) ?_ | refine k_not rfl rfl ?_)
    | refine run_opsEnd ?_
    | refine run_region ?_
    | refine run_condT rfl (by first | rfl | assumption) ?_
    | refine k_guardNF rfl rfl (by first | rfl | assumption) rfl ?_
    | refine run_retOk (resOk_tmp rfl rfl ?_)
    | fail)
    all_goals exact PLe.refl _
  by_cases hs : (2147483647 : Int) < (nm.size : Nat)
  · have e1 : decide ((2147483647 : Int) < (nm.size : Nat)) = true := by simpa using hs
    repeat' (first
    | refine run_seq ?_
    | (refine k_pick rfl ?_; first | refine k_assignD rfl rfl ?_ | refine k_moveD rfl rfl ?_ | refine k_loadW rfl rfl rfl (by first | rfl | (simp only [cellsD]; rfl)) ?_ | refine k_pickF rfl rfl (by first | rfl | assumption) rfl ?_ | refine k_boxW rfl rfl rfl (by first | rfl | (simp only [cellsD]; rfl)) ?_ | refine k_call rfl (by kernel_rfl) rfl (by first | exact c0) ?_ | refine k_not rfl rfl ?_)
    | refine run_opsEnd ?_
    | refine run_region ?_
    | refine run_condT rfl (by first | rfl | assumption) ?_
    | (refine k_guardY rfl rfl (by first | rfl | assumption) ?_; first | refine k_moveD rfl rfl ?_ | refine k_bin2B rfl rfl rfl rfl ?_ | refine k_lenS rfl rfl (by kernel_rfl) ?_)
    | refine run_retOk (resOk_tmp rfl rfl ?_)
    | fail)
    all_goals exact PLe.refl _
  have e1 : decide ((2147483647 : Int) < (nm.size : Nat)) = false := by simpa using hs
  by_cases hu : (m.fields.map TF.name).Nodup
  · rw [decide_eq_true hu] at cU
    cases bd
    · repeat' (first
    | (show Run _ _ _ _ (Itm.ops _ [7, 8, 9] :: _) _; refine run_frz (fun _ => false) (fun k => k == 22) ?_; refine k_guardY rfl rfl rfl ?_; refine k_call rfl (by kernel_rfl) rfl cD ?_)
    | refine run_seq ?_
    | (refine k_pick rfl ?_; first | refine k_assignD rfl rfl ?_ | refine k_moveD rfl rfl ?_ | refine k_loadW rfl rfl rfl (by first | rfl | (simp only [cellsD]; rfl)) ?_ | refine k_pickF rfl rfl (by first | rfl | assumption) rfl ?_ | refine k_boxW rfl rfl rfl (by first | rfl | (simp only [cellsD]; rfl)) ?_ | refine k_call rfl (by kernel_rfl) rfl (by first | exact c0 | exact cU) ?_ | refine k_not rfl rfl ?_)
    | refine run_opsEnd ?_
    | refine run_region ?_
    | refine run_condT rfl (by first | rfl | assumption) ?_
    | refine run_condF rfl (by first | rfl | assumption) ?_
    | (refine k_guardY rfl rfl (by first | rfl | assumption) ?_; first | refine k_moveD rfl rfl ?_ | refine k_loadW rfl rfl rfl (by first | rfl | (simp only [cellsD]; rfl)) ?_ | refine k_bin2B rfl rfl rfl rfl ?_ | refine k_lenS rfl rfl (by kernel_rfl) ?_ | refine k_not rfl rfl ?_ | refine k_buildSlice rfl rfl (by kernel_rfl) rfl rfl rfl rfl rfl ?_ | refine k_buildG rfl rfl rfl ?_)
    | refine run_skip ?_
    | refine run_retOk (resOk_tmp rfl rfl ?_)
    | fail)
      all_goals exact PLe.refl _
    · repeat' (first
    | (show Run _ _ _ _ (Itm.ops _ [7, 8, 9] :: _) _; refine run_frz (fun _ => false) (fun k => k == 22) ?_; refine k_guardY rfl rfl rfl ?_; refine k_call rfl (by kernel_rfl) rfl cD ?_)
    | refine run_seq ?_
    | (refine k_pick rfl ?_; first | refine k_assignD rfl rfl ?_ | refine k_moveD rfl rfl ?_ | refine k_fieldAddrB rfl rfl rfl ?_ | refine k_loadW rfl rfl rfl (by first | rfl | (simp only [cellsD]; rfl)) ?_ | refine k_loadBD rfl rfl rfl (by first | rfl | (simp only [cellsD]; rfl)) ?_ | refine k_pickF rfl rfl (by first | rfl | assumption) rfl ?_ | refine k_boxW rfl rfl rfl (by first | rfl | (simp only [cellsD]; rfl)) ?_ | refine k_call rfl (by kernel_rfl) rfl (by first | exact c0 | exact cU | exact cI) ?_ | refine k_extract rfl rfl rfl ?_ | refine k_lenD rfl rfl ?_ | refine k_not rfl rfl ?_ | refine k_storeB rfl rfl rfl rfl rfl ?_ | refine k_alloc rfl rfl ?_)
    | refine run_opsEnd ?_
    | refine run_region ?_
    | refine run_condF rfl (by first | rfl | assumption) ?_
    | (refine k_guardY rfl rfl (by first | rfl | assumption) ?_; first | refine k_moveD rfl rfl ?_ | refine k_loadW rfl rfl rfl (by first | rfl | (simp only [cellsD]; rfl)) ?_ | refine k_bin2B rfl rfl rfl rfl ?_ | refine k_lenS rfl rfl (by kernel_rfl) ?_ | refine k_not rfl rfl ?_ | refine k_buildSlice rfl rfl (by kernel_rfl) rfl rfl rfl rfl rfl ?_ | refine k_buildG rfl rfl rfl ?_)
    | refine run_block ?_
    | refine run_skip ?_
    | fail)
      refine run_loopS (ι := { k : Nat // k ≤ m.fields.length ∧ ∀ f ∈ m.fields.take k, f.name ≠ nm })
        (fun k => [(1, .dat (.val (.string nm))), (5, .ptr 5 0), (6, .dat (.val (.bool (lastF m.fields nm).isSome))), (34, .dat (.sl 8 144 (pdFs m.fields))), (35, .dat (.val (.int .i64 ((pdFs m.fields).length : Nat)))), (36, .dat (.val (.int .i64 (k.1 : Nat))))])
        (fun k => [(5, .box 49 (cellsD (qF (nF ((lastF m.fields nm).getD zTF)))))]) (fun k => m.fields.length - k.1) ⟨0, Nat.zero_le _, by simp⟩ id ?_ ?_
      · (refine ⟨?_, ?_, by rfl⟩ <;> repeat' (first | exact trivial | exact ALe.ptr rfl | exact ALe.own rfl | exact ALe.elt rfl | exact BLe.boxD _ _ | exact BLe.row rfl | exact BLe.res | exact ALe.dat (PLe.refl _) | exact CLe.nil | refine And.intro ?_ ?_ | refine ALe.iface ?_ | refine ALe.clo ?_ | refine CLe.cons ?_ ?_ | refine BLe.box ?_ | refine BLe.row ?_ | refine ALe.dat (PLe.of_eq ?_)))
        all_goals trace_state
      · rintro ⟨k, hk, hno⟩
        by_cases hlt : k < m.fields.length
        · have hc : decide ((k : Int) < (((pdFs m.fields).length : Nat) : Int)) = true := by rw [hlen]; simpa using hlt
          obtain ⟨f, hf⟩ : ∃ f, m.fields[k]? = some f := ⟨m.fields[k], by simp [hlt]⟩
          have hi : (pdFs m.fields)[((k : Nat) : Int).toNat]? = some (qF f) := by rw [pdFs_eq, ← show pdF f = qF f from pdF_eq f]; simp [hf]
          by_cases hn : f.name = nm
          · have hn' : decide (f.name = nm) = true := by simpa using hn
            have e := lastF_nodup hu (List.mem_of_getElem? hf) hn
            simp only [e, Option.isSome_some, Option.getD_some]
            have cS := sameField_p f
            repeat' (first
    | refine run_seq ?_
    | (refine k_pick rfl ?_; first | refine k_indexAddrD rfl rfl rfl (by first | omega | (dsimp only; omega)) (by assumption) ?_ | refine k_assignD rfl rfl ?_ | refine k_moveD rfl rfl ?_ | refine k_fieldAddrB rfl rfl rfl ?_ | refine k_loadBD rfl rfl rfl (by first | rfl | (simp only [cellsD]; rfl)) ?_ | refine k_bin2B rfl rfl rfl rfl ?_ | refine k_pickT rfl rfl (by first | rfl | assumption) rfl ?_ | refine k_storeB rfl rfl rfl rfl rfl ?_ | refine k_loadD rfl rfl (by first | rfl | (simp only [cellsD]; rfl)) ?_ | refine k_alloc rfl rfl ?_)
    | refine run_opsEnd ?_
    | refine run_region ?_
    | refine run_condT rfl (by first | rfl | assumption) ?_
    | (refine k_guardY rfl rfl (by first | rfl | assumption) ?_; first | refine k_loadW rfl rfl rfl (by first | rfl | (simp only [cellsD]; rfl)) ?_ | refine k_loadBD rfl rfl rfl (by first | rfl | (simp only [cellsD]; rfl)) ?_ | refine k_call rfl (by kernel_rfl) rfl (by first | exact cS) ?_)
    | refine run_block ?_
    | refine run_skip ?_
    | refine run_retOk (resOk_tmp rfl rfl ?_)
    | fail)
            all_goals exact PLe.refl _
          · have hn' : decide (f.name = nm) = false := by simpa using hn
            repeat' (first
    | refine run_seq ?_
    | (refine k_pick rfl ?_; first | refine k_indexAddrD rfl rfl rfl (by first | omega | (dsimp only; omega)) (by assumption) ?_ | refine k_moveD rfl rfl ?_ | refine k_fieldAddrB rfl rfl rfl ?_ | refine k_loadBD rfl rfl rfl (by first | rfl | (simp only [cellsD]; rfl)) ?_ | refine k_bin2B rfl rfl rfl rfl ?_ | refine k_storeB rfl rfl rfl rfl rfl ?_ | refine k_ariI rfl rfl rfl rfl (by first | omega | (dsimp only; omega)) ?_ | refine k_loadD rfl rfl (by first | rfl | (simp only [cellsD]; rfl)) ?_ | refine k_alloc rfl rfl ?_)
    | refine run_opsEnd ?_
    | refine run_region ?_
    | refine run_condT rfl (by first | rfl | assumption) ?_
    | refine run_condF rfl (by first | rfl | assumption) ?_
    | refine run_block ?_
    | refine run_blkEnd ?_
    | refine run_skip ?_
    | fail)
            refine run_again ?_
            refine ⟨⟨k + 1, by omega, ?_⟩, id, by simp only; omega, ?_⟩
            · intro g hg
              rw [List.take_add_one, hf] at hg
              simp only [List.mem_append, Option.toList_some, List.mem_singleton] at hg
              rcases hg with hg | rfl
              · exact hno g hg
              · exact hn
            (refine ⟨?_, ?_, by rfl⟩ <;> repeat' (first | exact trivial | exact ALe.ptr rfl | exact ALe.own rfl | exact ALe.elt rfl | exact BLe.boxD _ _ | exact BLe.row rfl | exact BLe.res | exact ALe.dat (PLe.refl _) | exact CLe.nil | refine And.intro ?_ ?_ | refine ALe.iface ?_ | refine ALe.clo ?_ | refine CLe.cons ?_ ?_ | refine BLe.box ?_ | refine BLe.row ?_ | refine ALe.dat (PLe.of_eq ?_)))
            all_goals trace_state
        · have hc : decide ((k : Int) < (((pdFs m.fields).length : Nat) : Int)) = false := by rw [hlen]; simpa using hlt
          have e : lastF m.fields nm = none := lastF_none (by rwa [List.take_of_length_le (by omega)] at hno)
          simp only [e, Option.isSome_none]
          repeat' (first
    | refine run_seq ?_
    | (refine k_pick rfl ?_; first | refine k_assignD rfl rfl ?_ | refine k_moveD rfl rfl ?_ | refine k_bin2B rfl rfl rfl rfl ?_ | refine k_not rfl rfl ?_)
    | refine run_opsEnd ?_
    | refine run_region ?_
    | refine run_condF rfl (by first | rfl | assumption) ?_
    | refine run_exit rfl ?_
    | refine run_retOk (resOk_tmp rfl rfl ?_)
    | fail)
          all_goals exact PLe.refl _
  · rw [decide_eq_false hu] at cU
    repeat' (first
    | refine run_seq ?_
    | (refine k_pick rfl ?_; first | refine k_assignD rfl rfl ?_ | refine k_moveD rfl rfl ?_ | refine k_loadW rfl rfl rfl (by first | rfl | (simp only [cellsD]; rfl)) ?_ | refine k_pickT rfl rfl (by first | rfl | assumption) rfl ?_ | refine k_pickF rfl rfl (by first | rfl | assumption) rfl ?_ | refine k_boxW rfl rfl rfl (by first | rfl | (simp only [cellsD]; rfl)) ?_ | refine k_call rfl (by kernel_rfl) rfl (by first | exact c0 | exact cU) ?_ | refine k_not rfl rfl ?_)
    | refine run_opsEnd ?_
    | refine run_region ?_
    | refine run_condT rfl (by first | rfl | assumption) ?_
    | refine run_condF rfl (by first | rfl | assumption) ?_
    | (refine k_guardY rfl rfl (by first | rfl | assumption) ?_; first | refine k_moveD rfl rfl ?_ | refine k_bin2B rfl rfl rfl rfl ?_ | refine k_lenS rfl rfl (by kernel_rfl) ?_)
    | refine k_guardNF rfl rfl (by first | rfl | assumption) rfl ?_
    | refine run_skip ?_
    | refine run_retOk (resOk_tmp rfl rfl ?_)
    | fail)
    all_goals exact PLe.refl _
end Go.Proofs.Ytlghpcokbppkfaa
