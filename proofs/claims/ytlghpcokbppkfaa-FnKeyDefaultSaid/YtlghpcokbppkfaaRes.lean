import Derived.Test.YtlghpcokbppkfaaEngC
import Derived.Test.YtlghpcokbppkfaaConv
/- Schemas as data: toSchema, FindNamedType, Resolve. -/
set_option linter.unusedVariables false
namespace Go.Proofs.Ytlghpcokbppkfaa
open Go.RowKit
set_option linter.unusedSimpArgs false
set_option maxRecDepth 10000
set_option maxHeartbeats 2000000

/-- A named type. -/
abbrev TD := ByteArray × TA
def pdTD (d : TD) : PD := .agg [.val (.string d.1), .val (.string d.2.scalar), .sl 8 144 (pdLs d.2.lists), .sl 8 144 (pdMs d.2.maps)]
def pdSch (l : List TD) : PD := .agg [.sl 4 80 (l.map pdTD)]
def tTD (d : TD) : PD := .agg [.val (.string d.1), optS d.2.scalar, hdL d.2.lists, hdM d.2.maps]
def aSch (l : List TD) : PD := .agg [.sl 4 40 (l.map tTD)]
theorem aSch_eq (l : List TD) : aSch l = .agg [.sl 4 40 (l.map tTD)] := rfl
theorem pdTD_eq (d : TD) : pdTD d = .agg [.val (.string d.1), .val (.string d.2.scalar), .sl 8 144 (pdLs d.2.lists), .sl 8 144 (pdMs d.2.maps)] := rfl
theorem tTD_eq (d : TD) : tTD d = .agg [.val (.string d.1), optS d.2.scalar, hdL d.2.lists, hdM d.2.maps] := rfl
theorem toSchema_p (l : List TD) : PCall Try.prog 89 [pdSch l] (.ptr (aSch l)) := by
  refine pcall_fits fun hfit => ?_
  have hk := (show Fits (pdSch l) from hfit _ (by simp))
  have hb := (hk.aggAt 0 rfl).sl
  have hlen : (l.map pdTD).length = l.length := by simp
  rw [hlen] at hb
  have hb1 := hb.1
  clear hb
  refine pcall_of_run Try.func89 rfl Try.ntmps89 rfl (fun X => ?_)
  repeat' (first
    | refine run_seq ?_
    | (refine k_pick rfl ?_; first | refine k_assignD rfl rfl ?_ | refine k_moveD rfl rfl ?_ | refine k_fieldAddrB rfl rfl rfl ?_ | refine k_loadBD rfl rfl rfl (by first | rfl | (simp only [pdSch, cellsD]; rfl)) ?_ | refine k_boxW rfl rfl rfl (by first | rfl | (simp only [pdSch, cellsD]; rfl)) ?_ | refine k_lenD rfl rfl ?_ | refine k_assignP rfl rfl ?_ | refine k_build rfl rfl rfl ?_)
    | refine run_opsEnd ?_
    | refine run_region ?_
    | refine run_block ?_
    | fail)
  refine run_nilOwnB 7 0 100 192 4 40 rfl rfl rfl ?_
  refine run_loopS (ι := { k : Nat // k ≤ l.length })
    (fun k => [(3, .ptr 7 0), (9, .dat (.sl 4 80 (l.map pdTD))), (10, .dat (.val (.int .i64 ((l.map pdTD).length : Nat)))), (11, .dat (.val (.int .i64 (k.1 : Nat))))])
    (fun k => [(7, .box 189 [.own 100]), (100, .row 192 4 40 ((l.take k.1).map tTD))])
    (fun k => l.length - k.1) ⟨0, Nat.zero_le _⟩ id ?_ ?_
  · (refine ⟨?_, ?_, by rfl⟩ <;> repeat' (first | exact trivial | exact ALe.ptr rfl | exact ALe.own rfl | exact ALe.elt rfl | exact BLe.boxD _ _ | exact BLe.row rfl | exact BLe.res | exact ALe.dat (PLe.refl _) | exact CLe.nil | refine And.intro ?_ ?_ | refine ALe.iface ?_ | refine ALe.clo ?_ | refine CLe.cons ?_ ?_ | refine BLe.box ?_ | refine BLe.row ?_ | refine ALe.dat (PLe.of_eq ?_)))
  · rintro ⟨k, hk⟩
    by_cases hlt : k < l.length
    · have hc : decide ((k : Int) < (((l.map pdTD).length : Nat) : Int)) = true := by rw [hlen]; simpa using hlt
      obtain ⟨f, hf⟩ : ∃ f, l[k]? = some f := ⟨l[k], by simp [hlt]⟩
      have hi : (l.map pdTD)[((k : Nat) : Int).toNat]? = some (pdTD f) := by simp [hf]
      have hcf := toAtom_c f.2
      have hbt : (((l.take k).map tTD).length + [tTD f].length) * 40 ≤ 140737488351232 := by simp; omega
      have hbl : ((l.take k).map tTD).length + [tTD f].length ≤ 140737488351232 := by simp; omega
      repeat' (first
    | refine run_seq ?_
    | (refine k_pick rfl ?_; first | refine k_indexAddrD rfl rfl rfl (by first | omega | (dsimp only; omega)) (by assumption) ?_ | refine k_moveD rfl rfl ?_ | refine k_bin2B rfl rfl rfl rfl ?_ | refine k_storeB rfl rfl rfl rfl rfl ?_ | refine k_ariI rfl rfl rfl rfl (by first | omega | (dsimp only; omega)) ?_ | refine k_loadD rfl rfl (by first | rfl | (simp only [pdTD_eq, pdA_eq, cellsD]; rfl)) ?_ | refine k_alloc rfl rfl ?_)
    | refine run_opsEnd ?_
    | refine run_region ?_
    | refine run_condT rfl (by first | rfl | assumption) ?_
    | refine run_block ?_
    | refine run_blkEnd ?_
    | refine run_skip ?_
    | refine run_drawC (by kernel_rfl) ?_
    | refine c_nil (And.intro (by kernel_rfl) ?_)
    | refine c_pick (d_appendOO rfl rfl rfl rfl rfl rfl (by kernel_rfl) rfl rfl hbt hbl) ?_
    | refine c_pick (d_fieldAddrB rfl rfl rfl) ?_
    | refine c_pick (d_loadBD rfl rfl rfl (by first | rfl | (simp only [pdTD_eq, pdA_eq, cellsD]; rfl))) ?_
    | refine c_pick (d_call rfl (by kernel_rfl) rfl (by first | exact hcf | (simp only [← pdTD_eq, ← pdA_eq]; exact hcf))) ?_
    | refine c_pick (d_nilB rfl rfl) ?_
    | refine c_pick (d_storeB rfl rfl rfl rfl rfl) ?_
    | refine c_pick (d_moveP rfl rfl) ?_
    | refine c_pick (d_loadBO rfl rfl rfl rfl) ?_
    | refine c_pick (d_buildSlice rfl rfl (by kernel_rfl) rfl rfl rfl rfl rfl) ?_
    | refine c_pick (d_build rfl rfl rfl) ?_
    | fail)
      refine run_again ?_
      refine ⟨⟨k + 1, by omega⟩, (fun j => if j = 100 then 27 else j), by simp only; omega, ?_⟩
      (refine ⟨?_, ?_, by rfl⟩ <;> repeat' (first | exact trivial | exact ALe.ptr rfl | exact ALe.own rfl | exact ALe.elt rfl | exact BLe.boxD _ _ | exact BLe.row rfl | exact BLe.res | exact ALe.dat (PLe.refl _) | exact CLe.nil | refine And.intro ?_ ?_ | refine ALe.iface ?_ | refine ALe.clo ?_ | refine CLe.cons ?_ ?_ | refine BLe.box ?_ | refine BLe.row ?_ | refine ALe.dat (PLe.of_eq ?_)))
      all_goals first | rfl | (simp [List.take_add_one, hf]; done) | (simp [List.take_add_one, hf]; rfl)
    · have hc : decide ((k : Int) < (((l.map pdTD).length : Nat) : Int)) = false := by rw [hlen]; simpa using hlt
      have hkk : l.take k = l := List.take_of_length_le (by omega)
      simp only [hkk]
      repeat' (first
    | refine run_seq ?_
    | (refine k_pick rfl ?_; first | refine k_bin2B rfl rfl rfl rfl ?_ | refine k_assignP rfl rfl ?_ | refine k_moveP rfl rfl ?_)
    | refine run_opsEnd ?_
    | refine run_region ?_
    | refine run_condF rfl (by first | rfl | assumption) ?_
    | refine run_exit rfl ?_
    | fail)
      refine run_frz (fun _ => false) (fun k => k == 100) ?_
      refine run_frz (fun t => t == 189) (fun k => k == 7) ?_
      repeat' (first
    | refine run_retOk (resOk_tmp rfl rfl ?_)
    | fail)
      all_goals exact PLe.refl _
end Go.Proofs.Ytlghpcokbppkfaa

/- (*Schema).Resolve. -/
set_option linter.unusedVariables false
namespace Go.Proofs.Ytlghpcokbppkfaa
open Go.RowKit
set_option linter.unusedSimpArgs false
set_option maxRecDepth 10000
set_option maxHeartbeats 2000000

/-- The last type of this name. -/
def lastD : List TD → ByteArray → Option TD
  | [], _ => none
  | x :: r, nm => match lastD r nm with
    | some f => some f
    | none => if x.1 = nm then some x else none
theorem lastD_append (nm : ByteArray) (b : List TD) : ∀ a : List TD, lastD (a ++ b) nm = (lastD b nm).or (lastD a nm)
  | [] => by cases h : lastD b nm <;> simp [lastD, h]
  | x :: a => by
    show (match lastD (a ++ b) nm with | some f => some f | none => if x.1 = nm then some x else none) = _
    rw [lastD_append nm b a]
    cases h : lastD b nm <;> simp [lastD]
theorem lastD_mem (nm : ByteArray) : ∀ {l : List TD} {f : TD}, lastD l nm = some f → f ∈ l ∧ f.1 = nm
  | x :: r, f, h => by
    simp only [lastD] at h
    split at h
    · rename_i g hg; cases h; exact ⟨List.mem_cons_of_mem _ (lastD_mem nm hg).1, (lastD_mem nm hg).2⟩
    · split at h
      · rename_i e; cases h; exact ⟨List.mem_cons_self .., e⟩
      · cases h
theorem lastD_at {l : List TD} {nm : ByteArray} {k : Nat} {f : TD} (h : l[k]? = some f) (hn : lastD (l.drop (k + 1)) nm = none) : lastD (l.drop k) nm = if f.1 = nm then some f else none := by
  obtain ⟨hlt, e⟩ := List.getElem?_eq_some_iff.1 h
  rw [List.drop_eq_getElem_cons hlt, e]
  show (match lastD _ nm with | some f => some f | none => if f.1 = nm then some f else none) = _
  rw [hn]
theorem lastD_of_drop {l : List TD} {nm : ByteArray} {k : Nat} {f : TD} (h : lastD (l.drop k) nm = some f) : lastD l nm = some f := by
  have := lastD_append nm (l.drop k) (l.take k)
  rw [List.take_append_drop, h] at this
  exact this
def zTD : TD := (⟨#[]⟩, emptyA)
theorem zTD_eq : tTD zTD = .agg [.val (.string ⟨#[]⟩), .val (.pointer none), .val (.pointer none), .val (.pointer none)] := by
  rw [tTD_eq]
  show PD.agg [_, optS ⟨#[]⟩, nilP, nilP] = _
  rw [optS_no rfl]; rfl
theorem findNamed_p (l : List TD) (nm : ByteArray) : PCall Try.prog 147 [.ptr (aSch l), .val (.string nm)] (.tup [tTD ((lastD l nm).getD zTD), .val (.bool (lastD l nm).isSome)]) := by
  refine pcall_fits fun hfit => ?_
  have hb := ((show Fits (aSch l) from (show Fits (.ptr (aSch l)) from hfit _ (by simp)).ptr).aggAt 0 rfl).sl
  have hlen : (l.map tTD).length = l.length := by simp
  rw [hlen] at hb
  have hb1 := hb.1
  clear hb
  refine pcall_of_run Try.func147 rfl Try.ntmps147 rfl (fun X => ?_)
  repeat' (first
    | refine run_seq ?_
    | (refine k_pick rfl ?_; first | refine k_assignD rfl rfl ?_ | refine k_moveD rfl rfl ?_ | refine k_nilD rfl rfl ?_ | refine k_lenD rfl rfl ?_ | refine k_ariI rfl rfl rfl rfl (by first | omega | (dsimp only; omega)) ?_ | refine k_fieldAddrD rfl rfl (by first | rfl | exact aSch_eq _) rfl (by first | rfl | (simp only [aSch_eq, cellsD]; rfl)) ?_ | refine k_loadD rfl rfl (by first | rfl | (simp only [aSch_eq, cellsD]; rfl)) ?_ | refine k_alloc rfl rfl ?_)
    | refine run_opsEnd ?_
    | refine run_region ?_
    | refine run_block ?_
    | fail)
  refine run_loopS (ι := { k : Nat // k ≤ l.length ∧ lastD (l.drop k) nm = none })
    (fun k => [(0, .dat (.ptr (aSch l))), (1, .dat (.val (.string nm))), (4, .ptr 4 0), (6, .dat (.val (.int .i64 ((k.1 : Nat) - 1 : Int))))])
    (fun k => [(4, .box 192 ([.val (.string ⟨#[]⟩), .val (.pointer none), .val (.pointer none), .val (.pointer none)].map .dat))])
    (fun k => k.1) ⟨l.length, Nat.le_refl _, by simp [lastD]⟩ id ?_ ?_
  · (refine ⟨?_, ?_, by rfl⟩ <;> repeat' (first | exact trivial | exact ALe.ptr rfl | exact ALe.own rfl | exact ALe.elt rfl | exact BLe.boxD _ _ | exact BLe.row rfl | exact BLe.res | exact ALe.dat (PLe.refl _) | exact CLe.nil | refine And.intro ?_ ?_ | refine ALe.iface ?_ | refine ALe.clo ?_ | refine CLe.cons ?_ ?_ | refine BLe.box ?_ | refine BLe.row ?_ | refine ALe.dat (PLe.of_eq ?_)))
    all_goals (simp [hlen])
  · rintro ⟨k, hk, hno⟩
    cases k with
    | zero =>
      have hc : decide ((0 : Int) ≤ ((0 : Nat) : Int) - 1) = false := by decide
      have e : lastD l nm = none := by simpa using hno
      repeat' (first
    | refine run_seq ?_
    | (refine k_pick rfl ?_; first | refine k_assignD rfl rfl ?_ | refine k_moveD rfl rfl ?_ | refine k_bin2B rfl rfl rfl rfl ?_ | refine k_storeB rfl rfl rfl rfl rfl ?_ | refine k_build rfl rfl rfl ?_)
    | refine run_opsEnd ?_
    | refine run_region ?_
    | refine run_condF rfl (by first | rfl | assumption) ?_
    | refine run_exit rfl ?_
    | refine run_retOk (resOk_cellTmp rfl rfl rfl (by first | rfl | (simp only [aSch_eq, cellsD]; rfl)) rfl ?_ ?_)
    | fail)
      · rw [e]; exact PLe.of_eq zTD_eq.symm
      · rw [e]; exact PLe.refl _
    | succ k =>
      have hc : decide ((0 : Int) ≤ ((k + 1 : Nat) : Int) - 1) = true := by simp
      obtain ⟨f, hf⟩ : ∃ f, l[k]? = some f := ⟨l[k]'(by omega), by simp⟩
      have hi : (l.map tTD)[(((k + 1 : Nat) : Int) - 1).toNat]? = some (tTD f) := by
        rw [show (((k + 1 : Nat) : Int) - 1).toNat = k by omega]; simp [hf]
      have hat := lastD_at hf hno
      repeat' (first
    | refine run_seq ?_
    | (refine k_pick rfl ?_; first | refine k_indexAddrD rfl rfl rfl (by first | omega | (dsimp only; omega)) (by assumption) ?_ | refine k_assignD rfl rfl ?_ | refine k_moveD rfl rfl ?_ | refine k_bin2B rfl rfl rfl rfl ?_ | refine k_nilD rfl rfl ?_ | refine k_storeB rfl rfl rfl rfl rfl ?_ | refine k_ariI rfl rfl rfl rfl (by first | omega | (dsimp only; omega)) ?_ | refine k_fieldAddrD rfl rfl (by first | rfl | exact aSch_eq _ | exact tTD_eq _) rfl (by first | rfl | (simp only [aSch_eq, tTD_eq, cellsD]; rfl)) ?_ | refine k_loadD rfl rfl (by first | rfl | (simp only [aSch_eq, tTD_eq, cellsD]; rfl)) ?_)
    | refine run_opsEnd ?_
    | refine run_region ?_
    | refine run_condT rfl (by first | rfl | assumption) ?_
    | refine run_cond rfl (fun h => ?_) (fun h => ?_)
    | refine run_block ?_
    | refine run_blkEnd ?_
    | refine run_skip ?_
    | refine run_retOk (resOk_cellTmp rfl rfl rfl (by first | rfl | (simp only [aSch_eq, tTD_eq, cellsD]; rfl)) rfl ?_ ?_)
    | fail)
      · have e : lastD l nm = some f := lastD_of_drop (hat.trans (if_pos (by simpa using h)))
        rw [e]; exact PLe.of_eq rfl
      · have e : lastD l nm = some f := lastD_of_drop (hat.trans (if_pos (by simpa using h)))
        rw [e]; exact PLe.refl _
      · refine run_again ?_
        refine ⟨⟨k, by omega, hat.trans (if_neg (by simpa using h))⟩, id, by simp only; omega, ?_⟩
        (refine ⟨?_, ?_, by rfl⟩ <;> repeat' (first | exact trivial | exact ALe.ptr rfl | exact ALe.own rfl | exact ALe.elt rfl | exact BLe.boxD _ _ | exact BLe.row rfl | exact BLe.res | exact ALe.dat (PLe.refl _) | exact CLe.nil | refine And.intro ?_ ?_ | refine ALe.iface ?_ | refine ALe.clo ?_ | refine CLe.cons ?_ ?_ | refine BLe.box ?_ | refine BLe.row ?_ | refine ALe.dat (PLe.of_eq ?_)))
        all_goals simp
/-- What a reference refers to, its own relationship aside. -/
def resN (l : List TD) (r : TR) : Option TA := if r.named then (lastD l r.name).map (·.2) else some r.atom
theorem resNo_p (l : List TD) (r : TR) : PCall Try.prog 126 [.ptr (aSch l), pTR r] (.tup [pTA ((resN l r).getD emptyA), .val (.bool (resN l r).isSome)]) := by
  obtain ⟨b, n, a, rl⟩ := r
  have cF := findNamed_p l n
  cases b
  · rw [show resN l (.mk false n a rl) = some a from rfl, pTR_inline]
    refine pcall_of_run Try.func126 rfl Try.ntmps126 rfl (fun X => ?_)
    repeat' (first
    | refine run_seq ?_
    | (refine k_pick rfl ?_; first | refine k_assignD rfl rfl ?_ | refine k_fieldAddrB rfl rfl rfl ?_ | refine k_loadBD rfl rfl rfl (by first | rfl | (simp only [aSch_eq, tTD_eq, cellsD]; rfl)) ?_ | refine k_boxW rfl rfl rfl (by first | rfl | (simp only [aSch_eq, tTD_eq, cellsD]; rfl)) ?_ | refine k_cmpNil rfl rfl rfl (by kernel_rfl) (by first | exact NilIs.ptr | exact NilIs.none | exact NilIs.nilI | assumption) rfl ?_ | refine k_storeB rfl rfl rfl rfl rfl ?_ | refine k_alloc rfl rfl ?_ | refine k_build rfl rfl rfl ?_)
    | refine run_opsEnd ?_
    | refine run_region ?_
    | refine run_condF rfl (by first | rfl | assumption) ?_
    | refine run_retOk (resOk_cellTmp rfl rfl rfl (by first | rfl | (simp only [aSch_eq, tTD_eq, cellsD]; rfl)) rfl ?_ ?_)
    | fail)
    all_goals exact PLe.of_eq rfl
  · rw [show resN l (.mk true n a rl) = (lastD l n).map (·.2) from rfl, pTR_named]
    refine pcall_of_run Try.func126 rfl Try.ntmps126 rfl (fun X => ?_)
    cases h : lastD l n with
    | none =>
      rw [h] at cF
      simp only [Option.getD_none, Option.isSome_none] at cF
      repeat' (first
    | refine run_seq ?_
    | (refine k_pick rfl ?_; first | refine k_assignD rfl rfl ?_ | refine k_moveD rfl rfl ?_ | refine k_fieldAddrB rfl rfl rfl ?_ | refine k_loadBD rfl rfl rfl (by first | rfl | (simp only [aSch_eq, tTD_eq, cellsD]; rfl)) ?_ | refine k_boxW rfl rfl rfl (by first | rfl | (simp only [aSch_eq, tTD_eq, cellsD]; rfl)) ?_ | refine k_call rfl (by kernel_rfl) rfl (by first | exact cF | (simp only [← aSch_eq, ← tTD_eq]; exact cF)) ?_ | refine k_extract rfl rfl rfl ?_ | refine k_nilD rfl rfl ?_ | refine k_cmpNil rfl rfl rfl (by kernel_rfl) (by first | exact NilIs.ptr | exact NilIs.none | exact NilIs.nilI | assumption) rfl ?_ | refine k_not rfl rfl ?_ | refine k_storeB rfl rfl rfl rfl rfl ?_ | refine k_loadD rfl rfl (by first | rfl | (simp only [aSch_eq, tTD_eq, cellsD]; rfl)) ?_ | refine k_alloc rfl rfl ?_ | refine k_build rfl rfl rfl ?_)
    | refine run_opsEnd ?_
    | refine run_region ?_
    | refine run_condT rfl (by first | rfl | assumption) ?_
    | refine run_retOk (resOk_cellTmp rfl rfl rfl (by first | rfl | (simp only [aSch_eq, tTD_eq, cellsD]; rfl)) rfl ?_ ?_)
    | fail)
      all_goals (refine PLe.of_eq ?_; simp [pTA_empty, nilP])
    | some d =>
      rw [h] at cF
      simp only [Option.getD_some, Option.isSome_some] at cF
      repeat' (first
    | refine run_seq ?_
    | (refine k_pick rfl ?_; first | refine k_assignD rfl rfl ?_ | refine k_moveD rfl rfl ?_ | refine k_fieldAddrB rfl rfl rfl ?_ | refine k_loadBD rfl rfl rfl (by first | rfl | (simp only [aSch_eq, tTD_eq, cellsD]; rfl)) ?_ | refine k_boxW rfl rfl rfl (by first | rfl | (simp only [aSch_eq, tTD_eq, cellsD]; rfl)) ?_ | refine k_call rfl (by kernel_rfl) rfl (by first | exact cF | (simp only [← aSch_eq, ← tTD_eq]; exact cF)) ?_ | refine k_extract rfl rfl rfl ?_ | refine k_nilD rfl rfl ?_ | refine k_cmpNil rfl rfl rfl (by kernel_rfl) (by first | exact NilIs.ptr | exact NilIs.none | exact NilIs.nilI | assumption) rfl ?_ | refine k_not rfl rfl ?_ | refine k_storeB rfl rfl rfl rfl rfl ?_ | refine k_loadD rfl rfl (by first | rfl | (simp only [aSch_eq, tTD_eq, cellsD]; rfl)) ?_ | refine k_alloc rfl rfl ?_ | refine k_build rfl rfl rfl ?_)
    | refine run_opsEnd ?_
    | refine run_region ?_
    | refine run_condT rfl (by first | rfl | assumption) ?_
    | refine run_condF rfl (by first | rfl | assumption) ?_
    | refine run_skip ?_
    | refine run_retOk (resOk_cellTmp rfl rfl rfl (by first | rfl | (simp only [aSch_eq, tTD_eq, cellsD]; rfl)) rfl ?_ ?_)
    | fail)
      all_goals exact PLe.of_eq rfl
/-- The map's cells are copied into the caller's variable. -/
def zMap : List AV := [.val (.slice none 0 0), .val (.slice none 0 0), nilP, nilP, nilP, nilP, nilP, .val (.bool false), .val (.string ⟨#[]⟩)].map .dat
theorem copyInto_a (m : TM) : ACall1 Try.prog 127 [.dat (.ptr (tM m)), .ptr 1000 0] [(1000, .box 123 zMap)] (.dat (.tup [])) [(1000, .box 123 (cellsD (pTM m)))] := by
  refine acall_of_run Try.func127 rfl Try.ntmps127 rfl (fun X => ?_)
  repeat' (first
    | refine run_seq ?_
    | (refine k_pick rfl ?_; first | refine k_moveD rfl rfl ?_ | refine k_fieldAddrB rfl rfl rfl ?_ | refine k_nilD rfl rfl ?_ | refine k_nilB rfl rfl ?_ | refine k_cmpNilA rfl rfl rfl (by kernel_rfl) (by first | exact NilA.ptr | exact NilA.iface) rfl ?_ | refine k_storeB rfl rfl rfl rfl rfl ?_ | refine k_fieldAddrD rfl rfl (by first | rfl | exact tM_eq _) rfl (by first | rfl | (simp only [tM_eq, cellsD]; rfl)) ?_ | refine k_loadD rfl rfl (by first | rfl | (simp only [tM_eq, cellsD]; rfl)) ?_ | refine k_moveP rfl rfl ?_)
    | refine run_opsEnd ?_
    | refine run_region ?_
    | refine run_condF rfl (by first | rfl | assumption) ?_
    | refine run_skip ?_
    | fail)
  refine run_endA () id (tm := []) ?_ (resA_none rfl)
  (refine ⟨?_, ?_, by rfl⟩ <;> repeat' (first | exact trivial | exact ALe.ptr rfl | exact ALe.own rfl | exact ALe.elt rfl | exact BLe.boxD _ _ | exact BLe.row rfl | exact BLe.res | exact ALe.dat (PLe.refl _) | exact CLe.nil | refine And.intro ?_ ?_ | refine ALe.iface ?_ | refine ALe.clo ?_ | refine CLe.cons ?_ ?_ | refine BLe.box ?_ | refine BLe.row ?_ | refine ALe.dat (PLe.of_eq ?_)))
end Go.Proofs.Ytlghpcokbppkfaa

/- (*Schema).Resolve and impl.Resolve. -/
set_option linter.unusedVariables false
namespace Go.Proofs.Ytlghpcokbppkfaa
open Go.RowKit
set_option linter.unusedSimpArgs false
set_option maxRecDepth 10000
set_option maxHeartbeats 4000000

/-- A relationship laid over a type's own. -/
def setRel (a : TA) (rel : ByteArray) : Option TA := match a.maps, a.lists with
  | m :: _, ls => some (.mk a.scalar ls [.mk m.fields m.elem rel])
  | [], l :: _ => some (.mk a.scalar [.mk l.elem rel l.keys] [])
  | [], [] => none
/-- What a reference refers to. -/
def resR (l : List TD) (r : TR) : Option TA := (resN l r).bind fun a => if r.rel = ⟨#[]⟩ then some a else setRel a r.rel
theorem resolve_p (l : List TD) (r : TR) : PCall Try.prog 92 [.ptr (aSch l), pTR r] (.tup [pTA ((resR l r).getD emptyA), .val (.bool (resR l r).isSome)]) := by
  have cN := resNo_p l r
  by_cases h0 : r.rel = ⟨#[]⟩
  · have e : resR l r = resN l r := by unfold resR; cases resN l r <;> simp [h0]
    rw [e]
    have ep : pTR r = .agg [r1 r, r2 r, r3 r, r4 r, nilP, .val (.bool false)] := by unfold pTR; rw [optS_no h0]
    rw [ep] at cN ⊢
    refine pcall_of_run Try.func92 rfl Try.ntmps92 rfl (fun X => ?_)
    repeat' (first
    | refine run_seq ?_
    | (refine k_pick rfl ?_; first | refine k_assignD rfl rfl ?_ | refine k_moveD rfl rfl ?_ | refine k_fieldAddrB rfl rfl rfl ?_ | refine k_loadW rfl rfl rfl (by first | rfl | (simp only [cellsD]; rfl)) ?_ | refine k_loadBD rfl rfl rfl (by first | rfl | (simp only [cellsD]; rfl)) ?_ | refine k_boxW rfl rfl rfl (by first | rfl | (simp only [cellsD]; rfl)) ?_ | refine k_call rfl (by kernel_rfl) rfl (by first | exact cN) ?_ | refine k_extract rfl rfl rfl ?_ | refine k_cmpNil rfl rfl rfl (by kernel_rfl) (by first | exact NilIs.ptr | exact NilIs.none | exact NilIs.nilI | assumption) rfl ?_ | refine k_storeB rfl rfl rfl rfl rfl ?_ | refine k_alloc rfl rfl ?_)
    | refine run_opsEnd ?_
    | refine run_region ?_
    | refine run_condT rfl (by first | rfl | assumption) ?_
    | refine run_retOk (resOk_cellTmp rfl rfl rfl (by first | rfl | (simp only [cellsD]; rfl)) rfl ?_ ?_)
    | fail)
    all_goals exact PLe.of_eq rfl
  · have ep : pTR r = .agg [r1 r, r2 r, r3 r, r4 r, .ptr (.val (.string r.rel)), .val (.bool false)] := by unfold pTR; rw [optS_some h0]
    rw [ep] at cN ⊢
    refine pcall_of_run Try.func92 rfl Try.ntmps92 rfl (fun X => ?_)
    cases hN : resN l r with
    | none =>
      have e : resR l r = none := by unfold resR; rw [hN]; rfl
      rw [hN] at cN
      rw [e]
      simp only [Option.getD_none, Option.isSome_none, pTA_empty] at cN ⊢
      repeat' (first
    | refine run_seq ?_
    | (refine k_pick rfl ?_; first | refine k_assignD rfl rfl ?_ | refine k_moveD rfl rfl ?_ | refine k_fieldAddrB rfl rfl rfl ?_ | refine k_loadW rfl rfl rfl (by first | rfl | (simp only [cellsD]; rfl)) ?_ | refine k_loadBD rfl rfl rfl (by first | rfl | (simp only [cellsD]; rfl)) ?_ | refine k_boxW rfl rfl rfl (by first | rfl | (simp only [cellsD]; rfl)) ?_ | refine k_call rfl (by kernel_rfl) rfl (by first | exact cN) ?_ | refine k_extract rfl rfl rfl ?_ | refine k_cmpNil rfl rfl rfl (by kernel_rfl) (by first | exact NilIs.ptr | exact NilIs.none | exact NilIs.nilI | assumption) rfl ?_ | refine k_storeB rfl rfl rfl rfl rfl ?_ | refine k_alloc rfl rfl ?_ | refine k_build rfl rfl rfl ?_)
    | refine run_opsEnd ?_
    | refine run_region ?_
    | refine run_condF rfl (by first | rfl | assumption) ?_
    | refine run_skip ?_
    | refine run_retOk (resOk_cellTmp rfl rfl rfl (by first | rfl | (simp only [cellsD]; rfl)) rfl ?_ ?_)
    | fail)
      all_goals exact PLe.of_eq rfl
    | some a =>
      have e : resR l r = setRel a r.rel := by unfold resR; rw [hN]; simp [h0]
      rw [hN] at cN
      rw [e]
      simp only [Option.getD_some, Option.isSome_some] at cN
      generalize r.rel = rel at *
      obtain ⟨sc, ls, ms⟩ := a
      cases ms with
      | cons m mr =>
        have cC := copyInto_a m
        rw [show setRel (.mk sc ls (m :: mr)) rel = some (.mk sc ls [.mk m.fields m.elem rel]) from rfl]
        rw [show pTA (.mk sc ls (m :: mr)) = .agg [optS sc, hdL ls, .ptr (tM m)] by unfold pTA; simp only [TA.scalar, TA.lists, TA.maps, hdM]] at cN
        repeat' (first
    | refine run_seq ?_
    | (refine k_pick rfl ?_; first | refine k_assignD rfl rfl ?_ | refine k_moveD rfl rfl ?_ | refine k_fieldAddrB rfl rfl rfl ?_ | refine k_loadW rfl rfl rfl (by first | rfl | (simp only [tM_eq, cellsD]; rfl)) ?_ | refine k_loadBD rfl rfl rfl (by first | rfl | (simp only [tM_eq, cellsD]; rfl)) ?_ | refine k_boxW rfl rfl rfl (by first | rfl | (simp only [tM_eq, cellsD]; rfl)) ?_ | refine k_call rfl (by kernel_rfl) rfl (by first | exact cN | (simp only [← tM_eq]; exact cN)) ?_ | refine k_extract rfl rfl rfl ?_ | refine k_nilD rfl rfl ?_ | refine k_cmpNil rfl rfl rfl (by kernel_rfl) (by first | exact NilIs.ptr | exact NilIs.none | exact NilIs.nilI | assumption) rfl ?_ | refine k_storeB rfl rfl rfl rfl rfl ?_ | refine k_loadD rfl rfl (by first | rfl | (simp only [tM_eq, cellsD]; rfl)) ?_ | refine k_alloc rfl rfl ?_ | refine k_loadBG rfl rfl rfl rfl ?_ | refine k_build rfl rfl rfl ?_ | refine k_acall1 (thk [(1000, _)] 200) rfl (by kernel_rfl) (cC) rfl (by repeat' (first | exact trivial | exact And.intro rfl trivial | refine And.intro rfl ?_)) rfl (by repeat' (first | exact trivial | refine And.intro (Or.inl rfl) ?_ | refine And.intro (Or.inr ⟨rfl, rfl⟩) ?_)) rfl ?_)
    | refine run_opsEnd ?_
    | refine run_region ?_
    | refine run_condT rfl (by first | rfl | assumption) ?_
    | refine run_condF rfl (by first | rfl | assumption) ?_
    | refine run_block ?_
    | refine run_blkEnd ?_
    | refine run_skip ?_
    | fail)
        refine run_frz (fun t => t == 123) (fun k => k == 8) ?_
        repeat' (first
    | refine run_retOk (resOk_cellTmp rfl rfl rfl (by first | rfl | (simp only [tM_eq, cellsD]; rfl)) rfl ?_ ?_)
    | fail)
        all_goals (refine PLe.of_eq ?_; simp only [Option.getD_some, Option.isSome_some, pTA, TA.scalar, TA.lists, TA.maps, hdM, tM_eq] <;> rfl)
      | nil =>
        cases ls with
        | cons q lr =>
          rw [show setRel (.mk sc (q :: lr) []) rel = some (.mk sc [.mk q.elem rel q.keys] []) from rfl]
          rw [show pTA (.mk sc (q :: lr) []) = .agg [optS sc, .ptr (tL q), nilP] by unfold pTA; simp only [TA.scalar, TA.lists, TA.maps, hdM, hdL]] at cN
          rw [tL_eq] at cN
          repeat' (first
    | refine run_seq ?_
    | (refine k_pick rfl ?_; first | refine k_assignD rfl rfl ?_ | refine k_moveD rfl rfl ?_ | refine k_fieldAddrB rfl rfl rfl ?_ | refine k_loadW rfl rfl rfl (by first | rfl | (simp only [cellsD]; rfl)) ?_ | refine k_loadBD rfl rfl rfl (by first | rfl | (simp only [cellsD]; rfl)) ?_ | refine k_boxW rfl rfl rfl (by first | rfl | (simp only [cellsD]; rfl)) ?_ | refine k_call rfl (by kernel_rfl) rfl (by first | exact cN) ?_ | refine k_extract rfl rfl rfl ?_ | refine k_nilD rfl rfl ?_ | refine k_cmpNil rfl rfl rfl (by kernel_rfl) (by first | exact NilIs.ptr | exact NilIs.none | exact NilIs.nilI | assumption) rfl ?_ | refine k_storeB rfl rfl rfl rfl rfl ?_ | refine k_loadD rfl rfl (by first | rfl | (simp only [cellsD]; rfl)) ?_ | refine k_alloc rfl rfl ?_ | refine k_loadBG rfl rfl rfl rfl ?_)
    | refine run_opsEnd ?_
    | refine run_region ?_
    | refine run_condT rfl (by first | rfl | assumption) ?_
    | refine run_condF rfl (by first | rfl | assumption) ?_
    | refine run_block ?_
    | refine run_blkEnd ?_
    | refine run_skip ?_
    | fail)
          refine run_frz (fun t => t == 138) (fun k => k == 9) ?_
          repeat' (first
    | refine run_retOk (resOk_cellTmp rfl rfl rfl (by first | rfl | (simp only [cellsD]; rfl)) rfl ?_ ?_)
    | fail)
          all_goals (refine PLe.of_eq ?_; simp only [Option.getD_some, Option.isSome_some, pTA, TA.scalar, TA.lists, TA.maps, hdM, hdL, tL_eq] <;> rfl)
        | nil =>
          rw [show setRel (.mk sc [] []) rel = none from rfl]
          simp only [Option.getD_none, Option.isSome_none, pTA_empty]
          by_cases hs : sc = ⟨#[]⟩
          · rw [show pTA (.mk sc [] []) = .agg [nilP, nilP, nilP] by unfold pTA; simp only [TA.scalar, TA.lists, TA.maps, hdM, hdL]; rw [optS_no hs]] at cN
            repeat' (first
    | refine run_seq ?_
    | (refine k_pick rfl ?_; first | refine k_assignD rfl rfl ?_ | refine k_moveD rfl rfl ?_ | refine k_fieldAddrB rfl rfl rfl ?_ | refine k_loadW rfl rfl rfl (by first | rfl | (simp only [cellsD]; rfl)) ?_ | refine k_loadBD rfl rfl rfl (by first | rfl | (simp only [cellsD]; rfl)) ?_ | refine k_boxW rfl rfl rfl (by first | rfl | (simp only [cellsD]; rfl)) ?_ | refine k_call rfl (by kernel_rfl) rfl (by first | exact cN) ?_ | refine k_extract rfl rfl rfl ?_ | refine k_cmpNil rfl rfl rfl (by kernel_rfl) (by first | exact NilIs.ptr | exact NilIs.none | exact NilIs.nilI | assumption) rfl ?_ | refine k_storeB rfl rfl rfl rfl rfl ?_ | refine k_alloc rfl rfl ?_ | refine k_build rfl rfl rfl ?_)
    | refine run_opsEnd ?_
    | refine run_region ?_
    | refine run_condT rfl (by first | rfl | assumption) ?_
    | refine run_condF rfl (by first | rfl | assumption) ?_
    | refine run_block ?_
    | refine run_skip ?_
    | refine run_retOk (resOk_cellTmp rfl rfl rfl (by first | rfl | (simp only [cellsD]; rfl)) rfl ?_ ?_)
    | fail)
            all_goals exact PLe.of_eq rfl
          · rw [show pTA (.mk sc [] []) = .agg [.ptr (.val (.string sc)), nilP, nilP] by unfold pTA; simp only [TA.scalar, TA.lists, TA.maps, hdM, hdL]; rw [optS_some hs]] at cN
            repeat' (first
    | refine run_seq ?_
    | (refine k_pick rfl ?_; first | refine k_assignD rfl rfl ?_ | refine k_moveD rfl rfl ?_ | refine k_fieldAddrB rfl rfl rfl ?_ | refine k_loadW rfl rfl rfl (by first | rfl | (simp only [cellsD]; rfl)) ?_ | refine k_loadBD rfl rfl rfl (by first | rfl | (simp only [cellsD]; rfl)) ?_ | refine k_boxW rfl rfl rfl (by first | rfl | (simp only [cellsD]; rfl)) ?_ | refine k_call rfl (by kernel_rfl) rfl (by first | exact cN) ?_ | refine k_extract rfl rfl rfl ?_ | refine k_cmpNil rfl rfl rfl (by kernel_rfl) (by first | exact NilIs.ptr | exact NilIs.none | exact NilIs.nilI | assumption) rfl ?_ | refine k_storeB rfl rfl rfl rfl rfl ?_ | refine k_alloc rfl rfl ?_ | refine k_build rfl rfl rfl ?_)
    | refine run_opsEnd ?_
    | refine run_region ?_
    | refine run_condT rfl (by first | rfl | assumption) ?_
    | refine run_condF rfl (by first | rfl | assumption) ?_
    | refine run_block ?_
    | refine run_skip ?_
    | refine run_retOk (resOk_cellTmp rfl rfl rfl (by first | rfl | (simp only [cellsD]; rfl)) rfl ?_ ?_)
    | fail)
            all_goals exact PLe.of_eq rfl
end Go.Proofs.Ytlghpcokbppkfaa
