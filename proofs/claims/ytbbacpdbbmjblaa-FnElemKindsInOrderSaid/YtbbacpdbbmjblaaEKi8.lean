/- Part 8 of what the proof rests on. -/
import Derived.Test.YtbbacpdbbmjblaaEKi5
import Derived.Test.YtbbacpdbbmjblaaEKi7
section
set_option linter.unusedVariables false
namespace Go.Proofs.Ytbbacpdbbmjblaa
open Go.RowKit
set_option linter.unusedSimpArgs false
theorem PCall.ret {P : Program} {f : FuncId} {ds : List PD} {r r' : PD} (h : PLe r r') (hp : PCall P f ds r) : PCall P f ds r' := fun w F vs hF hv =>
  (hp w F vs hF hv).mono (fun e w' ⟨v, he, hb, hr⟩ => ⟨v, he, hb, h _ _ _ hr⟩)
theorem ptr_le {d d' : PD} (h : PLe d d') : PLe (.ptr d) (.ptr d') := by
  intro w F v hv
  unfold Rep at hv ⊢
  obtain ⟨b, o, u, e, hb, hu, hl⟩ := hv
  exact ⟨b, o, u, e, hb, h _ _ _ hu, hl⟩
theorem repL_le {w : World} {F : Nat → Prop} {α : Type} {pd pd' : α → PD} (h : ∀ x, PLe (pd x) (pd' x)) {n b : Nat} : ∀ (l : List α) (o : Nat), RepL w F n (l.map pd) b o → RepL w F n (l.map pd') b o
  | [], _, _ => by simp [RepL]
  | x :: r, o, hv => by
    rw [List.map_cons] at hv ⊢
    unfold RepL at hv ⊢
    obtain ⟨⟨u, hu, h1, h2, h3⟩, hr⟩ := hv
    exact ⟨⟨u, h _ _ _ _ hu, h1, h2, h3⟩, repL_le h r _ hr⟩
theorem sl_le {α : Type} {pd pd' : α → PD} (h : ∀ x, PLe (pd x) (pd' x)) (n y : Nat) (l : List α) : PLe (.sl n y (l.map pd)) (.sl n y (l.map pd')) := by
  intro w F v hv
  unfold Rep at hv ⊢
  rw [List.length_map] at hv ⊢
  obtain ⟨a, c, e, h1, h2, h3, h4⟩ := hv
  refine ⟨a, c, e, h1, h2, h3, ?_⟩
  rcases h4 with h4 | ⟨b, o, hb, ha, hr⟩
  · left; cases l with | nil => rfl | cons _ _ => cases h4
  · exact .inr ⟨b, o, hb, ha, repL_le h l o hr⟩
theorem val_le (j : JV) : PLe (pdVal j) (dvV j) := by
  intro w F v h
  unfold pdVal Rep at h
  obtain ⟨u, rfl, h⟩ := h
  unfold Rep at h
  obtain ⟨b, o, u', rfl, hb, hj, hl⟩ := h
  have hj' := hj
  unfold pdJ Rep at hj'
  have h1 : u'.oneCell' = true := hj'.1.oneCell
  unfold dvV Rep
  refine ⟨_, rfl, ?_⟩
  unfold Rep
  refine ⟨b, o, .agg #[u'], rfl, hb, ?_, ?_⟩
  · unfold Rep
    refine ⟨[u'], rfl, ?_, fun u hu => by rw [List.mem_singleton] at hu; rw [hu]; exact h1⟩
    unfold Reps
    exact ⟨u', [], rfl, hj, by unfold Reps; rfl⟩
  · rwa [show (Value.agg #[u']).cells.toList = u'.cells.toList by rw [hj'.1.cells]; rfl]
def dvFld (f : ByteArray × JV) : PD := .agg [.val (.string f.1), dvV f.2]
def dvFl (fl : List (ByteArray × JV)) : PD := .sl 2 32 (fl.map dvFld)
def dvPE : PEV → PD
  | .name s => .agg [.ptr (.val (.string s)), nilP, nilP, nilP]
  | .key fl => .agg [nilP, .ptr (dvFl fl), nilP, nilP]
  | .val j => .agg [nilP, nilP, .ptr (dvV j), nilP]
  | .idx n => .agg [nilP, nilP, nilP, .ptr (.val (.int .i64 n))]
inductive PAl : List PD → List PD → Prop
  | nil : PAl [] []
  | cons {d d' : PD} {l l' : List PD} (h : PLe d d') (hs : PAl l l') : PAl (d :: l) (d' :: l')
theorem agg_le : ∀ {l l' : List PD}, PAl l l' → PLe (.agg l) (.agg l') := by
  have key : ∀ {w : World} {F : Nat → Prop} {l l' : List PD}, PAl l l' → ∀ vs, Reps w F l vs → Reps w F l' vs := by
    intro w F l l' h
    induction h with
    | nil => exact fun vs hv => hv
    | cons h _ ih =>
      intro vs hv
      unfold Reps at hv ⊢
      obtain ⟨v, r, e, h1, h2⟩ := hv
      exact ⟨v, r, e, h _ _ _ h1, ih _ h2⟩
  intro l l' h w F v hv
  unfold Rep at hv ⊢
  obtain ⟨vs, e, h1, h2⟩ := hv
  exact ⟨vs, e, key h _ h1, h2⟩
theorem fld_le (f : ByteArray × JV) : PLe (pdFld f) (dvFld f) := agg_le (.cons (PLe.refl _) (.cons (val_le _) .nil))
theorem pe_le (p : PEV) : PLe (pdPE p) (dvPE p) := by
  cases p with
  | name s => exact PLe.refl _
  | key fl => exact agg_le (.cons (PLe.refl _) (.cons (ptr_le (sl_le fld_le 2 32 fl)) (.cons (PLe.refl _) (.cons (PLe.refl _) .nil))))
  | val j => exact agg_le (.cons (PLe.refl _) (.cons (PLe.refl _) (.cons (ptr_le (val_le j)) (.cons (PLe.refl _) .nil))))
  | idx n => exact PLe.refl _
theorem toElem_v (x : EV) : PCall Try.prog 69 [pdE x] (dvPE (toPE x)) := (toElem_p x).ret (pe_le _)
set_option maxHeartbeats 8000000 in
theorem flCompare_p (a b : List (ByteArray × JV)) : PCall Try.prog 97 [dvFl a, dvFl b] (.val (.int .i64 (cmpLx cmpFd a b))) := by
  refine pcall_fits fun hfit => ?_
  unfold dvFl at hfit ⊢
  have b1 := (hfit (.sl 2 32 (a.map dvFld)) (by simp)).sl.2.1
  clear hfit
  have la : (a.map dvFld).length = a.length := by simp
  have lb : (b.map dvFld).length = b.length := by simp
  have ga : ∀ {i : Nat} {f : ByteArray × JV}, a[i]? = some f → (a.map dvFld)[((i : Nat) : Int).toNat]? = some (dvFld f) := fun h => by simp [h]
  have gb : ∀ {i : Nat} {f : ByteArray × JV}, b[i]? = some f → (b.map dvFld)[((i : Nat) : Int).toNat]? = some (dvFld f) := fun h => by simp [h]
  rw [la] at b1
  generalize a.map dvFld = da at *
  generalize b.map dvFld = db at *
  refine pcall_of_run Try.func97 rfl Try.ntmps97 rfl (fun X => ?_)
  repeat' (first
    | refine run_seq ?_
    | (refine k_pick rfl ?_; refine k_assignD rfl rfl ?_)
    | refine run_opsEnd ?_
    | refine run_region ?_
    | refine run_condT rfl (by first | rfl | assumption) ?_
    | refine run_condF rfl (by first | rfl | assumption) ?_
    | refine run_cond rfl (fun h => ?_) (fun h => ?_)
    | (refine k_guardY rfl rfl (by first | rfl | assumption) ?_; refine k_assignD rfl rfl ?_)
    | refine k_guardU rfl rfl rfl ?_
    | refine k_guardNT rfl rfl (by first | rfl | assumption) rfl ?_
    | refine k_guardNF rfl rfl (by first | rfl | assumption) rfl ?_
    | refine k_guardT rfl rfl rfl (fun h => ?_) (fun h => ?_)
    | refine k_guardF rfl rfl rfl (fun h => ?_) (fun h => ?_)
    | refine run_block ?_
    | refine run_blkEnd ?_
    | refine run_skip ?_
    | refine run_exit rfl ?_
    | refine run_retOk (resOk_tmp rfl rfl ?_)
    | refine run_retOk (resOk_tmp2 rfl rfl rfl ?_ ?_)
    | refine run_retOk (resOk_cell rfl rfl rfl (by first | rfl | (simp only [cellsD]; rfl)) ?_)
    | refine run_retOk (resOk_cellTmp rfl rfl rfl (by first | rfl | (simp only [cellsD]; rfl)) rfl ?_ ?_)
    | (refine k_assignD rfl rfl ?_)
    | refine run_drawC (by kernel_rfl) ?_
    | refine c_nil (And.intro (by kernel_rfl) ?_)
    | refine c_pick (d_assignD rfl rfl) ?_
    | refine c_passU rfl rfl ?_
    | refine c_passT rfl (by first | rfl | assumption) rfl ?_
    | refine c_passF rfl (by first | rfl | assumption) rfl ?_
    | refine c_pickY rfl (by first | rfl | assumption) (d_assignD rfl rfl) ?_
    | refine c_pickD rfl (by assumption) (d_assignD rfl rfl) ?_
    | refine c_splitT rfl rfl (fun h => ?_) (fun h => ?_)
    | refine c_splitF rfl rfl (fun h => ?_) (fun h => ?_)
    | fail)
  refine run_loopS (ι := { j : Nat // (j ≤ a.length ∧ j ≤ b.length) ∧ ∀ i x y, i < j → a[i]? = some x → b[i]? = some y → cmpFd x y = 0 })
    (fun j => [(0, .dat (.sl 2 32 da)), (1, .dat (.sl 2 32 db)), (5, .dat (.val (.int .i64 (j.1 : Nat))))])
    (fun _ => []) (fun j => a.length - j.1) ⟨0, ⟨Nat.zero_le _, Nat.zero_le _⟩, fun i _ _ h => absurd h (Nat.not_lt_zero i)⟩ id ?_ ?_
  · (refine ⟨?_, ?_, by rfl⟩ <;> repeat' (first | exact trivial | exact ALe.ptr rfl | exact ALe.own rfl | exact ALe.elt rfl | exact BLe.boxD _ _ | exact BLe.row rfl | exact BLe.res | exact BLe.dead rfl | exact ALe.dat (PLe.refl _) | exact CLe.nil | refine And.intro ?_ ?_ | refine ALe.iface ?_ | refine ALe.clo ?_ | refine CLe.cons ?_ ?_ | refine BLe.box ?_ | refine BLe.row ?_ | exact ALe.any _ | refine ALe.dat (PLe.of_eq ?_)))
  rintro ⟨j, ⟨hj, hj'⟩, hall⟩
  have hend : j = a.length ∨ j = b.length → cmpLx cmpFd a b = cmpI a.length b.length := fun h => cmpLx_end hj hj' hall h
  by_cases hlt : j < a.length
  · have g1 : decide (((da.length : Nat) : Int) ≤ (j : Int)) = false := decide_eq_false (by omega)
    by_cases hlt' : j < b.length
    · have g2 : decide (((db.length : Nat) : Int) ≤ (j : Int)) = false := decide_eq_false (by omega)
      obtain ⟨x, hx⟩ : ∃ x, a[j]? = some x := ⟨_, List.getElem?_eq_getElem hlt⟩
      obtain ⟨y, hy⟩ : ∃ y, b[j]? = some y := ⟨_, List.getElem?_eq_getElem hlt'⟩
      have i1 := ga hx
      have i2 := gb hy
      have c1 := strcmp_p x.1 y.1
      have c2 := compare_p x.2 y.2
      by_cases hs : cmpS x.1 y.1 = 0
      · have g3 : decide (cmpS x.1 y.1 ≠ 0) = false := decide_eq_false (by simp [hs])
        by_cases hv : cmpJ x.2 y.2 = 0
        · have g4 : decide (cmpJ x.2 y.2 ≠ 0) = false := decide_eq_false (by simp [hv])
          repeat' (first
    | refine run_seq ?_
    | (refine k_pick rfl ?_; first
      | refine k_indexAddrD rfl rfl rfl (by first | omega | (dsimp only; omega)) (by assumption) ?_
      | refine k_assignD rfl rfl ?_
      | refine k_moveD rfl rfl ?_
      | refine k_bin2B rfl rfl rfl rfl ?_
      | refine k_pickT rfl rfl (by first | rfl | assumption) rfl ?_
      | refine k_pickF rfl rfl (by first | rfl | assumption) rfl ?_
      | refine k_call rfl (by kernel_rfl) rfl (by first | exact c1 | exact c2) ?_
      | refine k_lenD rfl rfl ?_
      | refine k_not rfl rfl ?_
      | refine k_ariI rfl rfl rfl rfl (by first | omega | (dsimp only; omega)) ?_
      | refine k_fieldAddrD rfl rfl rfl rfl (by first | rfl | (simp only [cellsD]; rfl)) ?_
      | refine k_loadD rfl rfl (by first | rfl | (simp only [cellsD]; rfl)) ?_)
    | refine run_opsEnd ?_
    | refine run_region ?_
    | refine run_condT rfl (by first | rfl | assumption) ?_
    | refine run_condF rfl (by first | rfl | assumption) ?_
    | refine run_cond rfl (fun h => ?_) (fun h => ?_)
    | (refine k_guardY rfl rfl (by first | rfl | assumption) ?_; first
      | refine k_indexAddrD rfl rfl rfl (by first | omega | (dsimp only; omega)) (by assumption) ?_
      | refine k_assignD rfl rfl ?_
      | refine k_moveD rfl rfl ?_
      | refine k_bin2B rfl rfl rfl rfl ?_
      | refine k_pickT rfl rfl (by first | rfl | assumption) rfl ?_
      | refine k_pickF rfl rfl (by first | rfl | assumption) rfl ?_
      | refine k_call rfl (by kernel_rfl) rfl (by first | exact c1 | exact c2) ?_
      | refine k_lenD rfl rfl ?_
      | refine k_not rfl rfl ?_
      | refine k_ariI rfl rfl rfl rfl (by first | omega | (dsimp only; omega)) ?_
      | refine k_fieldAddrD rfl rfl rfl rfl (by first | rfl | (simp only [cellsD]; rfl)) ?_
      | refine k_loadD rfl rfl (by first | rfl | (simp only [cellsD]; rfl)) ?_)
    | refine k_guardU rfl rfl rfl ?_
    | refine k_guardNT rfl rfl (by first | rfl | assumption) rfl ?_
    | refine k_guardNF rfl rfl (by first | rfl | assumption) rfl ?_
    | refine k_guardT rfl rfl rfl (fun h => ?_) (fun h => ?_)
    | refine k_guardF rfl rfl rfl (fun h => ?_) (fun h => ?_)
    | refine run_block ?_
    | refine run_blkEnd ?_
    | refine run_skip ?_
    | refine run_exit rfl ?_
    | refine run_retOk (resOk_tmp rfl rfl ?_)
    | refine run_retOk (resOk_tmp2 rfl rfl rfl ?_ ?_)
    | refine run_retOk (resOk_cell rfl rfl rfl (by first | rfl | (simp only [cellsD]; rfl)) ?_)
    | refine run_retOk (resOk_cellTmp rfl rfl rfl (by first | rfl | (simp only [cellsD]; rfl)) rfl ?_ ?_)
    | (first
      | refine k_indexAddrD rfl rfl rfl (by first | omega | (dsimp only; omega)) (by assumption) ?_
      | refine k_assignD rfl rfl ?_
      | refine k_moveD rfl rfl ?_
      | refine k_bin2B rfl rfl rfl rfl ?_
      | refine k_pickT rfl rfl (by first | rfl | assumption) rfl ?_
      | refine k_pickF rfl rfl (by first | rfl | assumption) rfl ?_
      | refine k_call rfl (by kernel_rfl) rfl (by first | exact c1 | exact c2) ?_
      | refine k_lenD rfl rfl ?_
      | refine k_not rfl rfl ?_
      | refine k_ariI rfl rfl rfl rfl (by first | omega | (dsimp only; omega)) ?_
      | refine k_fieldAddrD rfl rfl rfl rfl (by first | rfl | (simp only [cellsD]; rfl)) ?_
      | refine k_loadD rfl rfl (by first | rfl | (simp only [cellsD]; rfl)) ?_)
    | refine run_drawC (by kernel_rfl) ?_
    | refine c_nil (And.intro (by kernel_rfl) ?_)
    | refine c_pick (d_indexAddrD rfl rfl rfl (by first | omega | (dsimp only; omega)) (by assumption)) ?_
    | refine c_pick (d_assignD rfl rfl) ?_
    | refine c_pick (d_moveD rfl rfl) ?_
    | refine c_pick (d_bin2B rfl rfl rfl rfl) ?_
    | refine c_pick (d_pickT rfl rfl (by first | rfl | assumption) rfl) ?_
    | refine c_pick (d_pickF rfl rfl (by first | rfl | assumption) rfl) ?_
    | refine c_pick (d_call rfl (by kernel_rfl) rfl (by first | exact c1 | exact c2)) ?_
    | refine c_pick (d_lenD rfl rfl) ?_
    | refine c_pick (d_not rfl rfl) ?_
    | refine c_pick (d_ariI rfl rfl rfl rfl (by first | omega | (dsimp only; omega))) ?_
    | refine c_pick (d_fieldAddrD rfl rfl rfl rfl (by first | rfl | (simp only [cellsD]; rfl))) ?_
    | refine c_pick (d_loadD rfl rfl (by first | rfl | (simp only [cellsD]; rfl))) ?_
    | refine c_passU rfl rfl ?_
    | refine c_passT rfl (by first | rfl | assumption) rfl ?_
    | refine c_passF rfl (by first | rfl | assumption) rfl ?_
    | refine c_pickY rfl (by first | rfl | assumption) (d_indexAddrD rfl rfl rfl (by first | omega | (dsimp only; omega)) (by assumption)) ?_
    | refine c_pickY rfl (by first | rfl | assumption) (d_assignD rfl rfl) ?_
    | refine c_pickY rfl (by first | rfl | assumption) (d_moveD rfl rfl) ?_
    | refine c_pickY rfl (by first | rfl | assumption) (d_bin2B rfl rfl rfl rfl) ?_
    | refine c_pickY rfl (by first | rfl | assumption) (d_pickT rfl rfl (by first | rfl | assumption) rfl) ?_
    | refine c_pickY rfl (by first | rfl | assumption) (d_pickF rfl rfl (by first | rfl | assumption) rfl) ?_
    | refine c_pickY rfl (by first | rfl | assumption) (d_call rfl (by kernel_rfl) rfl (by first | exact c1 | exact c2)) ?_
    | refine c_pickY rfl (by first | rfl | assumption) (d_lenD rfl rfl) ?_
    | refine c_pickY rfl (by first | rfl | assumption) (d_not rfl rfl) ?_
    | refine c_pickY rfl (by first | rfl | assumption) (d_ariI rfl rfl rfl rfl (by first | omega | (dsimp only; omega))) ?_
    | refine c_pickY rfl (by first | rfl | assumption) (d_fieldAddrD rfl rfl rfl rfl (by first | rfl | (simp only [cellsD]; rfl))) ?_
    | refine c_pickY rfl (by first | rfl | assumption) (d_loadD rfl rfl (by first | rfl | (simp only [cellsD]; rfl))) ?_
    | refine c_pickD rfl (by assumption) (d_indexAddrD rfl rfl rfl (by first | omega | (dsimp only; omega)) (by assumption)) ?_
    | refine c_pickD rfl (by assumption) (d_assignD rfl rfl) ?_
    | refine c_pickD rfl (by assumption) (d_moveD rfl rfl) ?_
    | refine c_pickD rfl (by assumption) (d_bin2B rfl rfl rfl rfl) ?_
    | refine c_pickD rfl (by assumption) (d_pickT rfl rfl (by first | rfl | assumption) rfl) ?_
    | refine c_pickD rfl (by assumption) (d_pickF rfl rfl (by first | rfl | assumption) rfl) ?_
    | refine c_pickD rfl (by assumption) (d_call rfl (by kernel_rfl) rfl (by first | exact c1 | exact c2)) ?_
    | refine c_pickD rfl (by assumption) (d_lenD rfl rfl) ?_
    | refine c_pickD rfl (by assumption) (d_not rfl rfl) ?_
    | refine c_pickD rfl (by assumption) (d_ariI rfl rfl rfl rfl (by first | omega | (dsimp only; omega))) ?_
    | refine c_pickD rfl (by assumption) (d_fieldAddrD rfl rfl rfl rfl (by first | rfl | (simp only [cellsD]; rfl))) ?_
    | refine c_pickD rfl (by assumption) (d_loadD rfl rfl (by first | rfl | (simp only [cellsD]; rfl))) ?_
    | refine c_splitT rfl rfl (fun h => ?_) (fun h => ?_)
    | refine c_splitF rfl rfl (fun h => ?_) (fun h => ?_)
    | fail)
          refine run_again ?_
          refine ⟨⟨j + 1, ⟨by omega, by omega⟩, fun i x' y' hi hx' hy' => ?_⟩, id, by simp only; omega, ?_⟩
          · by_cases e : i = j
            · subst e
              rw [hx] at hx'; rw [hy] at hy'
              cases hx'; cases hy'
              unfold cmpFd
              rw [lx_zero hs, hv]
            · exact hall i x' y' (by omega) hx' hy'
          (refine ⟨?_, ?_, by rfl⟩ <;> repeat' (first | exact trivial | exact ALe.ptr rfl | exact ALe.own rfl | exact ALe.elt rfl | exact BLe.boxD _ _ | exact BLe.row rfl | exact BLe.res | exact BLe.dead rfl | exact ALe.dat (PLe.refl _) | exact CLe.nil | refine And.intro ?_ ?_ | refine ALe.iface ?_ | refine ALe.clo ?_ | refine CLe.cons ?_ ?_ | refine BLe.box ?_ | refine BLe.row ?_ | exact ALe.any _ | refine ALe.dat (PLe.of_eq ?_)))
        · have g4 : decide (cmpJ x.2 y.2 ≠ 0) = true := decide_eq_true hv
          have e : cmpFd x y = cmpJ x.2 y.2 := by unfold cmpFd; rw [lx_zero hs]
          rw [cmpLx_at hall hx hy (by rw [e]; exact hv), e]
          repeat' (first
    | refine run_seq ?_
    | (refine k_pick rfl ?_; first
      | refine k_indexAddrD rfl rfl rfl (by first | omega | (dsimp only; omega)) (by assumption) ?_
      | refine k_assignD rfl rfl ?_
      | refine k_moveD rfl rfl ?_
      | refine k_bin2B rfl rfl rfl rfl ?_
      | refine k_pickT rfl rfl (by first | rfl | assumption) rfl ?_
      | refine k_pickF rfl rfl (by first | rfl | assumption) rfl ?_
      | refine k_call rfl (by kernel_rfl) rfl (by first | exact c1 | exact c2) ?_
      | refine k_lenD rfl rfl ?_
      | refine k_not rfl rfl ?_
      | refine k_ariI rfl rfl rfl rfl (by first | omega | (dsimp only; omega)) ?_
      | refine k_fieldAddrD rfl rfl rfl rfl (by first | rfl | (simp only [cellsD]; rfl)) ?_
      | refine k_loadD rfl rfl (by first | rfl | (simp only [cellsD]; rfl)) ?_)
    | refine run_opsEnd ?_
    | refine run_region ?_
    | refine run_condT rfl (by first | rfl | assumption) ?_
    | refine run_condF rfl (by first | rfl | assumption) ?_
    | refine run_cond rfl (fun h => ?_) (fun h => ?_)
    | (refine k_guardY rfl rfl (by first | rfl | assumption) ?_; first
      | refine k_indexAddrD rfl rfl rfl (by first | omega | (dsimp only; omega)) (by assumption) ?_
      | refine k_assignD rfl rfl ?_
      | refine k_moveD rfl rfl ?_
      | refine k_bin2B rfl rfl rfl rfl ?_
      | refine k_pickT rfl rfl (by first | rfl | assumption) rfl ?_
      | refine k_pickF rfl rfl (by first | rfl | assumption) rfl ?_
      | refine k_call rfl (by kernel_rfl) rfl (by first | exact c1 | exact c2) ?_
      | refine k_lenD rfl rfl ?_
      | refine k_not rfl rfl ?_
      | refine k_ariI rfl rfl rfl rfl (by first | omega | (dsimp only; omega)) ?_
      | refine k_fieldAddrD rfl rfl rfl rfl (by first | rfl | (simp only [cellsD]; rfl)) ?_
      | refine k_loadD rfl rfl (by first | rfl | (simp only [cellsD]; rfl)) ?_)
    | refine k_guardU rfl rfl rfl ?_
    | refine k_guardNT rfl rfl (by first | rfl | assumption) rfl ?_
    | refine k_guardNF rfl rfl (by first | rfl | assumption) rfl ?_
    | refine k_guardT rfl rfl rfl (fun h => ?_) (fun h => ?_)
    | refine k_guardF rfl rfl rfl (fun h => ?_) (fun h => ?_)
    | refine run_block ?_
    | refine run_blkEnd ?_
    | refine run_skip ?_
    | refine run_exit rfl ?_
    | refine run_retOk (resOk_tmp rfl rfl ?_)
    | refine run_retOk (resOk_tmp2 rfl rfl rfl ?_ ?_)
    | refine run_retOk (resOk_cell rfl rfl rfl (by first | rfl | (simp only [cellsD]; rfl)) ?_)
    | refine run_retOk (resOk_cellTmp rfl rfl rfl (by first | rfl | (simp only [cellsD]; rfl)) rfl ?_ ?_)
    | (first
      | refine k_indexAddrD rfl rfl rfl (by first | omega | (dsimp only; omega)) (by assumption) ?_
      | refine k_assignD rfl rfl ?_
      | refine k_moveD rfl rfl ?_
      | refine k_bin2B rfl rfl rfl rfl ?_
      | refine k_pickT rfl rfl (by first | rfl | assumption) rfl ?_
      | refine k_pickF rfl rfl (by first | rfl | assumption) rfl ?_
      | refine k_call rfl (by kernel_rfl) rfl (by first | exact c1 | exact c2) ?_
      | refine k_lenD rfl rfl ?_
      | refine k_not rfl rfl ?_
      | refine k_ariI rfl rfl rfl rfl (by first | omega | (dsimp only; omega)) ?_
      | refine k_fieldAddrD rfl rfl rfl rfl (by first | rfl | (simp only [cellsD]; rfl)) ?_
      | refine k_loadD rfl rfl (by first | rfl | (simp only [cellsD]; rfl)) ?_)
    | refine run_drawC (by kernel_rfl) ?_
    | refine c_nil (And.intro (by kernel_rfl) ?_)
    | refine c_pick (d_indexAddrD rfl rfl rfl (by first | omega | (dsimp only; omega)) (by assumption)) ?_
    | refine c_pick (d_assignD rfl rfl) ?_
    | refine c_pick (d_moveD rfl rfl) ?_
    | refine c_pick (d_bin2B rfl rfl rfl rfl) ?_
    | refine c_pick (d_pickT rfl rfl (by first | rfl | assumption) rfl) ?_
    | refine c_pick (d_pickF rfl rfl (by first | rfl | assumption) rfl) ?_
    | refine c_pick (d_call rfl (by kernel_rfl) rfl (by first | exact c1 | exact c2)) ?_
    | refine c_pick (d_lenD rfl rfl) ?_
    | refine c_pick (d_not rfl rfl) ?_
    | refine c_pick (d_ariI rfl rfl rfl rfl (by first | omega | (dsimp only; omega))) ?_
    | refine c_pick (d_fieldAddrD rfl rfl rfl rfl (by first | rfl | (simp only [cellsD]; rfl))) ?_
    | refine c_pick (d_loadD rfl rfl (by first | rfl | (simp only [cellsD]; rfl))) ?_
    | refine c_passU rfl rfl ?_
    | refine c_passT rfl (by first | rfl | assumption) rfl ?_
    | refine c_passF rfl (by first | rfl | assumption) rfl ?_
    | refine c_pickY rfl (by first | rfl | assumption) (d_indexAddrD rfl rfl rfl (by first | omega | (dsimp only; omega)) (by assumption)) ?_
    | refine c_pickY rfl (by first | rfl | assumption) (d_assignD rfl rfl) ?_
    | refine c_pickY rfl (by first | rfl | assumption) (d_moveD rfl rfl) ?_
    | refine c_pickY rfl (by first | rfl | assumption) (d_bin2B rfl rfl rfl rfl) ?_
    | refine c_pickY rfl (by first | rfl | assumption) (d_pickT rfl rfl (by first | rfl | assumption) rfl) ?_
    | refine c_pickY rfl (by first | rfl | assumption) (d_pickF rfl rfl (by first | rfl | assumption) rfl) ?_
    | refine c_pickY rfl (by first | rfl | assumption) (d_call rfl (by kernel_rfl) rfl (by first | exact c1 | exact c2)) ?_
    | refine c_pickY rfl (by first | rfl | assumption) (d_lenD rfl rfl) ?_
    | refine c_pickY rfl (by first | rfl | assumption) (d_not rfl rfl) ?_
    | refine c_pickY rfl (by first | rfl | assumption) (d_ariI rfl rfl rfl rfl (by first | omega | (dsimp only; omega))) ?_
    | refine c_pickY rfl (by first | rfl | assumption) (d_fieldAddrD rfl rfl rfl rfl (by first | rfl | (simp only [cellsD]; rfl))) ?_
    | refine c_pickY rfl (by first | rfl | assumption) (d_loadD rfl rfl (by first | rfl | (simp only [cellsD]; rfl))) ?_
    | refine c_pickD rfl (by assumption) (d_indexAddrD rfl rfl rfl (by first | omega | (dsimp only; omega)) (by assumption)) ?_
    | refine c_pickD rfl (by assumption) (d_assignD rfl rfl) ?_
    | refine c_pickD rfl (by assumption) (d_moveD rfl rfl) ?_
    | refine c_pickD rfl (by assumption) (d_bin2B rfl rfl rfl rfl) ?_
    | refine c_pickD rfl (by assumption) (d_pickT rfl rfl (by first | rfl | assumption) rfl) ?_
    | refine c_pickD rfl (by assumption) (d_pickF rfl rfl (by first | rfl | assumption) rfl) ?_
    | refine c_pickD rfl (by assumption) (d_call rfl (by kernel_rfl) rfl (by first | exact c1 | exact c2)) ?_
    | refine c_pickD rfl (by assumption) (d_lenD rfl rfl) ?_
    | refine c_pickD rfl (by assumption) (d_not rfl rfl) ?_
    | refine c_pickD rfl (by assumption) (d_ariI rfl rfl rfl rfl (by first | omega | (dsimp only; omega))) ?_
    | refine c_pickD rfl (by assumption) (d_fieldAddrD rfl rfl rfl rfl (by first | rfl | (simp only [cellsD]; rfl))) ?_
    | refine c_pickD rfl (by assumption) (d_loadD rfl rfl (by first | rfl | (simp only [cellsD]; rfl))) ?_
    | refine c_splitT rfl rfl (fun h => ?_) (fun h => ?_)
    | refine c_splitF rfl rfl (fun h => ?_) (fun h => ?_)
    | fail)
          all_goals exact PLe.refl _
      · have g3 : decide (cmpS x.1 y.1 ≠ 0) = true := decide_eq_true hs
        have e : cmpFd x y = cmpS x.1 y.1 := by unfold cmpFd; rw [lx_pos hs]
        rw [cmpLx_at hall hx hy (by rw [e]; exact hs), e]
        repeat' (first
    | refine run_seq ?_
    | (refine k_pick rfl ?_; first
      | refine k_indexAddrD rfl rfl rfl (by first | omega | (dsimp only; omega)) (by assumption) ?_
      | refine k_assignD rfl rfl ?_
      | refine k_moveD rfl rfl ?_
      | refine k_bin2B rfl rfl rfl rfl ?_
      | refine k_pickT rfl rfl (by first | rfl | assumption) rfl ?_
      | refine k_pickF rfl rfl (by first | rfl | assumption) rfl ?_
      | refine k_call rfl (by kernel_rfl) rfl (by first | exact c1 | exact c2) ?_
      | refine k_lenD rfl rfl ?_
      | refine k_not rfl rfl ?_
      | refine k_ariI rfl rfl rfl rfl (by first | omega | (dsimp only; omega)) ?_
      | refine k_fieldAddrD rfl rfl rfl rfl (by first | rfl | (simp only [cellsD]; rfl)) ?_
      | refine k_loadD rfl rfl (by first | rfl | (simp only [cellsD]; rfl)) ?_)
    | refine run_opsEnd ?_
    | refine run_region ?_
    | refine run_condT rfl (by first | rfl | assumption) ?_
    | refine run_condF rfl (by first | rfl | assumption) ?_
    | refine run_cond rfl (fun h => ?_) (fun h => ?_)
    | (refine k_guardY rfl rfl (by first | rfl | assumption) ?_; first
      | refine k_indexAddrD rfl rfl rfl (by first | omega | (dsimp only; omega)) (by assumption) ?_
      | refine k_assignD rfl rfl ?_
      | refine k_moveD rfl rfl ?_
      | refine k_bin2B rfl rfl rfl rfl ?_
      | refine k_pickT rfl rfl (by first | rfl | assumption) rfl ?_
      | refine k_pickF rfl rfl (by first | rfl | assumption) rfl ?_
      | refine k_call rfl (by kernel_rfl) rfl (by first | exact c1 | exact c2) ?_
      | refine k_lenD rfl rfl ?_
      | refine k_not rfl rfl ?_
      | refine k_ariI rfl rfl rfl rfl (by first | omega | (dsimp only; omega)) ?_
      | refine k_fieldAddrD rfl rfl rfl rfl (by first | rfl | (simp only [cellsD]; rfl)) ?_
      | refine k_loadD rfl rfl (by first | rfl | (simp only [cellsD]; rfl)) ?_)
    | refine k_guardU rfl rfl rfl ?_
    | refine k_guardNT rfl rfl (by first | rfl | assumption) rfl ?_
    | refine k_guardNF rfl rfl (by first | rfl | assumption) rfl ?_
    | refine k_guardT rfl rfl rfl (fun h => ?_) (fun h => ?_)
    | refine k_guardF rfl rfl rfl (fun h => ?_) (fun h => ?_)
    | refine run_block ?_
    | refine run_blkEnd ?_
    | refine run_skip ?_
    | refine run_exit rfl ?_
    | refine run_retOk (resOk_tmp rfl rfl ?_)
    | refine run_retOk (resOk_tmp2 rfl rfl rfl ?_ ?_)
    | refine run_retOk (resOk_cell rfl rfl rfl (by first | rfl | (simp only [cellsD]; rfl)) ?_)
    | refine run_retOk (resOk_cellTmp rfl rfl rfl (by first | rfl | (simp only [cellsD]; rfl)) rfl ?_ ?_)
    | (first
      | refine k_indexAddrD rfl rfl rfl (by first | omega | (dsimp only; omega)) (by assumption) ?_
      | refine k_assignD rfl rfl ?_
      | refine k_moveD rfl rfl ?_
      | refine k_bin2B rfl rfl rfl rfl ?_
      | refine k_pickT rfl rfl (by first | rfl | assumption) rfl ?_
      | refine k_pickF rfl rfl (by first | rfl | assumption) rfl ?_
      | refine k_call rfl (by kernel_rfl) rfl (by first | exact c1 | exact c2) ?_
      | refine k_lenD rfl rfl ?_
      | refine k_not rfl rfl ?_
      | refine k_ariI rfl rfl rfl rfl (by first | omega | (dsimp only; omega)) ?_
      | refine k_fieldAddrD rfl rfl rfl rfl (by first | rfl | (simp only [cellsD]; rfl)) ?_
      | refine k_loadD rfl rfl (by first | rfl | (simp only [cellsD]; rfl)) ?_)
    | refine run_drawC (by kernel_rfl) ?_
    | refine c_nil (And.intro (by kernel_rfl) ?_)
    | refine c_pick (d_indexAddrD rfl rfl rfl (by first | omega | (dsimp only; omega)) (by assumption)) ?_
    | refine c_pick (d_assignD rfl rfl) ?_
    | refine c_pick (d_moveD rfl rfl) ?_
    | refine c_pick (d_bin2B rfl rfl rfl rfl) ?_
    | refine c_pick (d_pickT rfl rfl (by first | rfl | assumption) rfl) ?_
    | refine c_pick (d_pickF rfl rfl (by first | rfl | assumption) rfl) ?_
    | refine c_pick (d_call rfl (by kernel_rfl) rfl (by first | exact c1 | exact c2)) ?_
    | refine c_pick (d_lenD rfl rfl) ?_
    | refine c_pick (d_not rfl rfl) ?_
    | refine c_pick (d_ariI rfl rfl rfl rfl (by first | omega | (dsimp only; omega))) ?_
    | refine c_pick (d_fieldAddrD rfl rfl rfl rfl (by first | rfl | (simp only [cellsD]; rfl))) ?_
    | refine c_pick (d_loadD rfl rfl (by first | rfl | (simp only [cellsD]; rfl))) ?_
    | refine c_passU rfl rfl ?_
    | refine c_passT rfl (by first | rfl | assumption) rfl ?_
    | refine c_passF rfl (by first | rfl | assumption) rfl ?_
    | refine c_pickY rfl (by first | rfl | assumption) (d_indexAddrD rfl rfl rfl (by first | omega | (dsimp only; omega)) (by assumption)) ?_
    | refine c_pickY rfl (by first | rfl | assumption) (d_assignD rfl rfl) ?_
    | refine c_pickY rfl (by first | rfl | assumption) (d_moveD rfl rfl) ?_
    | refine c_pickY rfl (by first | rfl | assumption) (d_bin2B rfl rfl rfl rfl) ?_
    | refine c_pickY rfl (by first | rfl | assumption) (d_pickT rfl rfl (by first | rfl | assumption) rfl) ?_
    | refine c_pickY rfl (by first | rfl | assumption) (d_pickF rfl rfl (by first | rfl | assumption) rfl) ?_
    | refine c_pickY rfl (by first | rfl | assumption) (d_call rfl (by kernel_rfl) rfl (by first | exact c1 | exact c2)) ?_
    | refine c_pickY rfl (by first | rfl | assumption) (d_lenD rfl rfl) ?_
    | refine c_pickY rfl (by first | rfl | assumption) (d_not rfl rfl) ?_
    | refine c_pickY rfl (by first | rfl | assumption) (d_ariI rfl rfl rfl rfl (by first | omega | (dsimp only; omega))) ?_
    | refine c_pickY rfl (by first | rfl | assumption) (d_fieldAddrD rfl rfl rfl rfl (by first | rfl | (simp only [cellsD]; rfl))) ?_
    | refine c_pickY rfl (by first | rfl | assumption) (d_loadD rfl rfl (by first | rfl | (simp only [cellsD]; rfl))) ?_
    | refine c_pickD rfl (by assumption) (d_indexAddrD rfl rfl rfl (by first | omega | (dsimp only; omega)) (by assumption)) ?_
    | refine c_pickD rfl (by assumption) (d_assignD rfl rfl) ?_
    | refine c_pickD rfl (by assumption) (d_moveD rfl rfl) ?_
    | refine c_pickD rfl (by assumption) (d_bin2B rfl rfl rfl rfl) ?_
    | refine c_pickD rfl (by assumption) (d_pickT rfl rfl (by first | rfl | assumption) rfl) ?_
    | refine c_pickD rfl (by assumption) (d_pickF rfl rfl (by first | rfl | assumption) rfl) ?_
    | refine c_pickD rfl (by assumption) (d_call rfl (by kernel_rfl) rfl (by first | exact c1 | exact c2)) ?_
    | refine c_pickD rfl (by assumption) (d_lenD rfl rfl) ?_
    | refine c_pickD rfl (by assumption) (d_not rfl rfl) ?_
    | refine c_pickD rfl (by assumption) (d_ariI rfl rfl rfl rfl (by first | omega | (dsimp only; omega))) ?_
    | refine c_pickD rfl (by assumption) (d_fieldAddrD rfl rfl rfl rfl (by first | rfl | (simp only [cellsD]; rfl))) ?_
    | refine c_pickD rfl (by assumption) (d_loadD rfl rfl (by first | rfl | (simp only [cellsD]; rfl))) ?_
    | refine c_splitT rfl rfl (fun h => ?_) (fun h => ?_)
    | refine c_splitF rfl rfl (fun h => ?_) (fun h => ?_)
    | fail)
        all_goals exact PLe.refl _
    · have g2 : decide (((db.length : Nat) : Int) ≤ (j : Int)) = true := decide_eq_true (by omega)
      rw [hend (.inr (by omega)), cmpI_gt (by omega)]
      repeat' (first
    | refine run_seq ?_
    | (refine k_pick rfl ?_; first
      | refine k_indexAddrD rfl rfl rfl (by first | omega | (dsimp only; omega)) (by assumption) ?_
      | refine k_assignD rfl rfl ?_
      | refine k_moveD rfl rfl ?_
      | refine k_bin2B rfl rfl rfl rfl ?_
      | refine k_pickT rfl rfl (by first | rfl | assumption) rfl ?_
      | refine k_pickF rfl rfl (by first | rfl | assumption) rfl ?_
      | refine k_lenD rfl rfl ?_
      | refine k_not rfl rfl ?_
      | refine k_ariI rfl rfl rfl rfl (by first | omega | (dsimp only; omega)) ?_
      | refine k_fieldAddrD rfl rfl rfl rfl (by first | rfl | (simp only [cellsD]; rfl)) ?_
      | refine k_loadD rfl rfl (by first | rfl | (simp only [cellsD]; rfl)) ?_)
    | refine run_opsEnd ?_
    | refine run_region ?_
    | refine run_condT rfl (by first | rfl | assumption) ?_
    | refine run_condF rfl (by first | rfl | assumption) ?_
    | refine run_cond rfl (fun h => ?_) (fun h => ?_)
    | (refine k_guardY rfl rfl (by first | rfl | assumption) ?_; first
      | refine k_indexAddrD rfl rfl rfl (by first | omega | (dsimp only; omega)) (by assumption) ?_
      | refine k_assignD rfl rfl ?_
      | refine k_moveD rfl rfl ?_
      | refine k_bin2B rfl rfl rfl rfl ?_
      | refine k_pickT rfl rfl (by first | rfl | assumption) rfl ?_
      | refine k_pickF rfl rfl (by first | rfl | assumption) rfl ?_
      | refine k_lenD rfl rfl ?_
      | refine k_not rfl rfl ?_
      | refine k_ariI rfl rfl rfl rfl (by first | omega | (dsimp only; omega)) ?_
      | refine k_fieldAddrD rfl rfl rfl rfl (by first | rfl | (simp only [cellsD]; rfl)) ?_
      | refine k_loadD rfl rfl (by first | rfl | (simp only [cellsD]; rfl)) ?_)
    | refine k_guardU rfl rfl rfl ?_
    | refine k_guardNT rfl rfl (by first | rfl | assumption) rfl ?_
    | refine k_guardNF rfl rfl (by first | rfl | assumption) rfl ?_
    | refine k_guardT rfl rfl rfl (fun h => ?_) (fun h => ?_)
    | refine k_guardF rfl rfl rfl (fun h => ?_) (fun h => ?_)
    | refine run_block ?_
    | refine run_blkEnd ?_
    | refine run_skip ?_
    | refine run_exit rfl ?_
    | refine run_retOk (resOk_tmp rfl rfl ?_)
    | refine run_retOk (resOk_tmp2 rfl rfl rfl ?_ ?_)
    | refine run_retOk (resOk_cell rfl rfl rfl (by first | rfl | (simp only [cellsD]; rfl)) ?_)
    | refine run_retOk (resOk_cellTmp rfl rfl rfl (by first | rfl | (simp only [cellsD]; rfl)) rfl ?_ ?_)
    | (first
      | refine k_indexAddrD rfl rfl rfl (by first | omega | (dsimp only; omega)) (by assumption) ?_
      | refine k_assignD rfl rfl ?_
      | refine k_moveD rfl rfl ?_
      | refine k_bin2B rfl rfl rfl rfl ?_
      | refine k_pickT rfl rfl (by first | rfl | assumption) rfl ?_
      | refine k_pickF rfl rfl (by first | rfl | assumption) rfl ?_
      | refine k_lenD rfl rfl ?_
      | refine k_not rfl rfl ?_
      | refine k_ariI rfl rfl rfl rfl (by first | omega | (dsimp only; omega)) ?_
      | refine k_fieldAddrD rfl rfl rfl rfl (by first | rfl | (simp only [cellsD]; rfl)) ?_
      | refine k_loadD rfl rfl (by first | rfl | (simp only [cellsD]; rfl)) ?_)
    | refine run_drawC (by kernel_rfl) ?_
    | refine c_nil (And.intro (by kernel_rfl) ?_)
    | refine c_pick (d_indexAddrD rfl rfl rfl (by first | omega | (dsimp only; omega)) (by assumption)) ?_
    | refine c_pick (d_assignD rfl rfl) ?_
    | refine c_pick (d_moveD rfl rfl) ?_
    | refine c_pick (d_bin2B rfl rfl rfl rfl) ?_
    | refine c_pick (d_pickT rfl rfl (by first | rfl | assumption) rfl) ?_
    | refine c_pick (d_pickF rfl rfl (by first | rfl | assumption) rfl) ?_
    | refine c_pick (d_lenD rfl rfl) ?_
    | refine c_pick (d_not rfl rfl) ?_
    | refine c_pick (d_ariI rfl rfl rfl rfl (by first | omega | (dsimp only; omega))) ?_
    | refine c_pick (d_fieldAddrD rfl rfl rfl rfl (by first | rfl | (simp only [cellsD]; rfl))) ?_
    | refine c_pick (d_loadD rfl rfl (by first | rfl | (simp only [cellsD]; rfl))) ?_
    | refine c_passU rfl rfl ?_
    | refine c_passT rfl (by first | rfl | assumption) rfl ?_
    | refine c_passF rfl (by first | rfl | assumption) rfl ?_
    | refine c_pickY rfl (by first | rfl | assumption) (d_indexAddrD rfl rfl rfl (by first | omega | (dsimp only; omega)) (by assumption)) ?_
    | refine c_pickY rfl (by first | rfl | assumption) (d_assignD rfl rfl) ?_
    | refine c_pickY rfl (by first | rfl | assumption) (d_moveD rfl rfl) ?_
    | refine c_pickY rfl (by first | rfl | assumption) (d_bin2B rfl rfl rfl rfl) ?_
    | refine c_pickY rfl (by first | rfl | assumption) (d_pickT rfl rfl (by first | rfl | assumption) rfl) ?_
    | refine c_pickY rfl (by first | rfl | assumption) (d_pickF rfl rfl (by first | rfl | assumption) rfl) ?_
    | refine c_pickY rfl (by first | rfl | assumption) (d_lenD rfl rfl) ?_
    | refine c_pickY rfl (by first | rfl | assumption) (d_not rfl rfl) ?_
    | refine c_pickY rfl (by first | rfl | assumption) (d_ariI rfl rfl rfl rfl (by first | omega | (dsimp only; omega))) ?_
    | refine c_pickY rfl (by first | rfl | assumption) (d_fieldAddrD rfl rfl rfl rfl (by first | rfl | (simp only [cellsD]; rfl))) ?_
    | refine c_pickY rfl (by first | rfl | assumption) (d_loadD rfl rfl (by first | rfl | (simp only [cellsD]; rfl))) ?_
    | refine c_pickD rfl (by assumption) (d_indexAddrD rfl rfl rfl (by first | omega | (dsimp only; omega)) (by assumption)) ?_
    | refine c_pickD rfl (by assumption) (d_assignD rfl rfl) ?_
    | refine c_pickD rfl (by assumption) (d_moveD rfl rfl) ?_
    | refine c_pickD rfl (by assumption) (d_bin2B rfl rfl rfl rfl) ?_
    | refine c_pickD rfl (by assumption) (d_pickT rfl rfl (by first | rfl | assumption) rfl) ?_
    | refine c_pickD rfl (by assumption) (d_pickF rfl rfl (by first | rfl | assumption) rfl) ?_
    | refine c_pickD rfl (by assumption) (d_lenD rfl rfl) ?_
    | refine c_pickD rfl (by assumption) (d_not rfl rfl) ?_
    | refine c_pickD rfl (by assumption) (d_ariI rfl rfl rfl rfl (by first | omega | (dsimp only; omega))) ?_
    | refine c_pickD rfl (by assumption) (d_fieldAddrD rfl rfl rfl rfl (by first | rfl | (simp only [cellsD]; rfl))) ?_
    | refine c_pickD rfl (by assumption) (d_loadD rfl rfl (by first | rfl | (simp only [cellsD]; rfl))) ?_
    | refine c_splitT rfl rfl (fun h => ?_) (fun h => ?_)
    | refine c_splitF rfl rfl (fun h => ?_) (fun h => ?_)
    | fail)
      all_goals exact PLe.refl _
  · have g1 : decide (((da.length : Nat) : Int) ≤ (j : Int)) = true := decide_eq_true (by omega)
    by_cases hlt' : j < b.length
    · have g2 : decide (((db.length : Nat) : Int) ≤ (j : Int)) = false := decide_eq_false (by omega)
      rw [hend (.inl (by omega)), cmpI_lt (by omega)]
      repeat' (first
    | refine run_seq ?_
    | (refine k_pick rfl ?_; first
      | refine k_indexAddrD rfl rfl rfl (by first | omega | (dsimp only; omega)) (by assumption) ?_
      | refine k_assignD rfl rfl ?_
      | refine k_moveD rfl rfl ?_
      | refine k_bin2B rfl rfl rfl rfl ?_
      | refine k_pickT rfl rfl (by first | rfl | assumption) rfl ?_
      | refine k_pickF rfl rfl (by first | rfl | assumption) rfl ?_
      | refine k_lenD rfl rfl ?_
      | refine k_not rfl rfl ?_
      | refine k_ariI rfl rfl rfl rfl (by first | omega | (dsimp only; omega)) ?_
      | refine k_fieldAddrD rfl rfl rfl rfl (by first | rfl | (simp only [cellsD]; rfl)) ?_
      | refine k_loadD rfl rfl (by first | rfl | (simp only [cellsD]; rfl)) ?_)
    | refine run_opsEnd ?_
    | refine run_region ?_
    | refine run_condT rfl (by first | rfl | assumption) ?_
    | refine run_condF rfl (by first | rfl | assumption) ?_
    | refine run_cond rfl (fun h => ?_) (fun h => ?_)
    | (refine k_guardY rfl rfl (by first | rfl | assumption) ?_; first
      | refine k_indexAddrD rfl rfl rfl (by first | omega | (dsimp only; omega)) (by assumption) ?_
      | refine k_assignD rfl rfl ?_
      | refine k_moveD rfl rfl ?_
      | refine k_bin2B rfl rfl rfl rfl ?_
      | refine k_pickT rfl rfl (by first | rfl | assumption) rfl ?_
      | refine k_pickF rfl rfl (by first | rfl | assumption) rfl ?_
      | refine k_lenD rfl rfl ?_
      | refine k_not rfl rfl ?_
      | refine k_ariI rfl rfl rfl rfl (by first | omega | (dsimp only; omega)) ?_
      | refine k_fieldAddrD rfl rfl rfl rfl (by first | rfl | (simp only [cellsD]; rfl)) ?_
      | refine k_loadD rfl rfl (by first | rfl | (simp only [cellsD]; rfl)) ?_)
    | refine k_guardU rfl rfl rfl ?_
    | refine k_guardNT rfl rfl (by first | rfl | assumption) rfl ?_
    | refine k_guardNF rfl rfl (by first | rfl | assumption) rfl ?_
    | refine k_guardT rfl rfl rfl (fun h => ?_) (fun h => ?_)
    | refine k_guardF rfl rfl rfl (fun h => ?_) (fun h => ?_)
    | refine run_block ?_
    | refine run_blkEnd ?_
    | refine run_skip ?_
    | refine run_exit rfl ?_
    | refine run_retOk (resOk_tmp rfl rfl ?_)
    | refine run_retOk (resOk_tmp2 rfl rfl rfl ?_ ?_)
    | refine run_retOk (resOk_cell rfl rfl rfl (by first | rfl | (simp only [cellsD]; rfl)) ?_)
    | refine run_retOk (resOk_cellTmp rfl rfl rfl (by first | rfl | (simp only [cellsD]; rfl)) rfl ?_ ?_)
    | (first
      | refine k_indexAddrD rfl rfl rfl (by first | omega | (dsimp only; omega)) (by assumption) ?_
      | refine k_assignD rfl rfl ?_
      | refine k_moveD rfl rfl ?_
      | refine k_bin2B rfl rfl rfl rfl ?_
      | refine k_pickT rfl rfl (by first | rfl | assumption) rfl ?_
      | refine k_pickF rfl rfl (by first | rfl | assumption) rfl ?_
      | refine k_lenD rfl rfl ?_
      | refine k_not rfl rfl ?_
      | refine k_ariI rfl rfl rfl rfl (by first | omega | (dsimp only; omega)) ?_
      | refine k_fieldAddrD rfl rfl rfl rfl (by first | rfl | (simp only [cellsD]; rfl)) ?_
      | refine k_loadD rfl rfl (by first | rfl | (simp only [cellsD]; rfl)) ?_)
    | refine run_drawC (by kernel_rfl) ?_
    | refine c_nil (And.intro (by kernel_rfl) ?_)
    | refine c_pick (d_indexAddrD rfl rfl rfl (by first | omega | (dsimp only; omega)) (by assumption)) ?_
    | refine c_pick (d_assignD rfl rfl) ?_
    | refine c_pick (d_moveD rfl rfl) ?_
    | refine c_pick (d_bin2B rfl rfl rfl rfl) ?_
    | refine c_pick (d_pickT rfl rfl (by first | rfl | assumption) rfl) ?_
    | refine c_pick (d_pickF rfl rfl (by first | rfl | assumption) rfl) ?_
    | refine c_pick (d_lenD rfl rfl) ?_
    | refine c_pick (d_not rfl rfl) ?_
    | refine c_pick (d_ariI rfl rfl rfl rfl (by first | omega | (dsimp only; omega))) ?_
    | refine c_pick (d_fieldAddrD rfl rfl rfl rfl (by first | rfl | (simp only [cellsD]; rfl))) ?_
    | refine c_pick (d_loadD rfl rfl (by first | rfl | (simp only [cellsD]; rfl))) ?_
    | refine c_passU rfl rfl ?_
    | refine c_passT rfl (by first | rfl | assumption) rfl ?_
    | refine c_passF rfl (by first | rfl | assumption) rfl ?_
    | refine c_pickY rfl (by first | rfl | assumption) (d_indexAddrD rfl rfl rfl (by first | omega | (dsimp only; omega)) (by assumption)) ?_
    | refine c_pickY rfl (by first | rfl | assumption) (d_assignD rfl rfl) ?_
    | refine c_pickY rfl (by first | rfl | assumption) (d_moveD rfl rfl) ?_
    | refine c_pickY rfl (by first | rfl | assumption) (d_bin2B rfl rfl rfl rfl) ?_
    | refine c_pickY rfl (by first | rfl | assumption) (d_pickT rfl rfl (by first | rfl | assumption) rfl) ?_
    | refine c_pickY rfl (by first | rfl | assumption) (d_pickF rfl rfl (by first | rfl | assumption) rfl) ?_
    | refine c_pickY rfl (by first | rfl | assumption) (d_lenD rfl rfl) ?_
    | refine c_pickY rfl (by first | rfl | assumption) (d_not rfl rfl) ?_
    | refine c_pickY rfl (by first | rfl | assumption) (d_ariI rfl rfl rfl rfl (by first | omega | (dsimp only; omega))) ?_
    | refine c_pickY rfl (by first | rfl | assumption) (d_fieldAddrD rfl rfl rfl rfl (by first | rfl | (simp only [cellsD]; rfl))) ?_
    | refine c_pickY rfl (by first | rfl | assumption) (d_loadD rfl rfl (by first | rfl | (simp only [cellsD]; rfl))) ?_
    | refine c_pickD rfl (by assumption) (d_indexAddrD rfl rfl rfl (by first | omega | (dsimp only; omega)) (by assumption)) ?_
    | refine c_pickD rfl (by assumption) (d_assignD rfl rfl) ?_
    | refine c_pickD rfl (by assumption) (d_moveD rfl rfl) ?_
    | refine c_pickD rfl (by assumption) (d_bin2B rfl rfl rfl rfl) ?_
    | refine c_pickD rfl (by assumption) (d_pickT rfl rfl (by first | rfl | assumption) rfl) ?_
    | refine c_pickD rfl (by assumption) (d_pickF rfl rfl (by first | rfl | assumption) rfl) ?_
    | refine c_pickD rfl (by assumption) (d_lenD rfl rfl) ?_
    | refine c_pickD rfl (by assumption) (d_not rfl rfl) ?_
    | refine c_pickD rfl (by assumption) (d_ariI rfl rfl rfl rfl (by first | omega | (dsimp only; omega))) ?_
    | refine c_pickD rfl (by assumption) (d_fieldAddrD rfl rfl rfl rfl (by first | rfl | (simp only [cellsD]; rfl))) ?_
    | refine c_pickD rfl (by assumption) (d_loadD rfl rfl (by first | rfl | (simp only [cellsD]; rfl))) ?_
    | refine c_splitT rfl rfl (fun h => ?_) (fun h => ?_)
    | refine c_splitF rfl rfl (fun h => ?_) (fun h => ?_)
    | fail)
      all_goals exact PLe.refl _
    · have g2 : decide (((db.length : Nat) : Int) ≤ (j : Int)) = true := decide_eq_true (by omega)
      rw [hend (.inl (by omega)), cmpI_zero.2 (by omega)]
      repeat' (first
    | refine run_seq ?_
    | (refine k_pick rfl ?_; first
      | refine k_indexAddrD rfl rfl rfl (by first | omega | (dsimp only; omega)) (by assumption) ?_
      | refine k_assignD rfl rfl ?_
      | refine k_moveD rfl rfl ?_
      | refine k_bin2B rfl rfl rfl rfl ?_
      | refine k_pickT rfl rfl (by first | rfl | assumption) rfl ?_
      | refine k_pickF rfl rfl (by first | rfl | assumption) rfl ?_
      | refine k_lenD rfl rfl ?_
      | refine k_not rfl rfl ?_
      | refine k_ariI rfl rfl rfl rfl (by first | omega | (dsimp only; omega)) ?_
      | refine k_fieldAddrD rfl rfl rfl rfl (by first | rfl | (simp only [cellsD]; rfl)) ?_
      | refine k_loadD rfl rfl (by first | rfl | (simp only [cellsD]; rfl)) ?_)
    | refine run_opsEnd ?_
    | refine run_region ?_
    | refine run_condT rfl (by first | rfl | assumption) ?_
    | refine run_condF rfl (by first | rfl | assumption) ?_
    | refine run_cond rfl (fun h => ?_) (fun h => ?_)
    | (refine k_guardY rfl rfl (by first | rfl | assumption) ?_; first
      | refine k_indexAddrD rfl rfl rfl (by first | omega | (dsimp only; omega)) (by assumption) ?_
      | refine k_assignD rfl rfl ?_
      | refine k_moveD rfl rfl ?_
      | refine k_bin2B rfl rfl rfl rfl ?_
      | refine k_pickT rfl rfl (by first | rfl | assumption) rfl ?_
      | refine k_pickF rfl rfl (by first | rfl | assumption) rfl ?_
      | refine k_lenD rfl rfl ?_
      | refine k_not rfl rfl ?_
      | refine k_ariI rfl rfl rfl rfl (by first | omega | (dsimp only; omega)) ?_
      | refine k_fieldAddrD rfl rfl rfl rfl (by first | rfl | (simp only [cellsD]; rfl)) ?_
      | refine k_loadD rfl rfl (by first | rfl | (simp only [cellsD]; rfl)) ?_)
    | refine k_guardU rfl rfl rfl ?_
    | refine k_guardNT rfl rfl (by first | rfl | assumption) rfl ?_
    | refine k_guardNF rfl rfl (by first | rfl | assumption) rfl ?_
    | refine k_guardT rfl rfl rfl (fun h => ?_) (fun h => ?_)
    | refine k_guardF rfl rfl rfl (fun h => ?_) (fun h => ?_)
    | refine run_block ?_
    | refine run_blkEnd ?_
    | refine run_skip ?_
    | refine run_exit rfl ?_
    | refine run_retOk (resOk_tmp rfl rfl ?_)
    | refine run_retOk (resOk_tmp2 rfl rfl rfl ?_ ?_)
    | refine run_retOk (resOk_cell rfl rfl rfl (by first | rfl | (simp only [cellsD]; rfl)) ?_)
    | refine run_retOk (resOk_cellTmp rfl rfl rfl (by first | rfl | (simp only [cellsD]; rfl)) rfl ?_ ?_)
    | (first
      | refine k_indexAddrD rfl rfl rfl (by first | omega | (dsimp only; omega)) (by assumption) ?_
      | refine k_assignD rfl rfl ?_
      | refine k_moveD rfl rfl ?_
      | refine k_bin2B rfl rfl rfl rfl ?_
      | refine k_pickT rfl rfl (by first | rfl | assumption) rfl ?_
      | refine k_pickF rfl rfl (by first | rfl | assumption) rfl ?_
      | refine k_lenD rfl rfl ?_
      | refine k_not rfl rfl ?_
      | refine k_ariI rfl rfl rfl rfl (by first | omega | (dsimp only; omega)) ?_
      | refine k_fieldAddrD rfl rfl rfl rfl (by first | rfl | (simp only [cellsD]; rfl)) ?_
      | refine k_loadD rfl rfl (by first | rfl | (simp only [cellsD]; rfl)) ?_)
    | refine run_drawC (by kernel_rfl) ?_
    | refine c_nil (And.intro (by kernel_rfl) ?_)
    | refine c_pick (d_indexAddrD rfl rfl rfl (by first | omega | (dsimp only; omega)) (by assumption)) ?_
    | refine c_pick (d_assignD rfl rfl) ?_
    | refine c_pick (d_moveD rfl rfl) ?_
    | refine c_pick (d_bin2B rfl rfl rfl rfl) ?_
    | refine c_pick (d_pickT rfl rfl (by first | rfl | assumption) rfl) ?_
    | refine c_pick (d_pickF rfl rfl (by first | rfl | assumption) rfl) ?_
    | refine c_pick (d_lenD rfl rfl) ?_
    | refine c_pick (d_not rfl rfl) ?_
    | refine c_pick (d_ariI rfl rfl rfl rfl (by first | omega | (dsimp only; omega))) ?_
    | refine c_pick (d_fieldAddrD rfl rfl rfl rfl (by first | rfl | (simp only [cellsD]; rfl))) ?_
    | refine c_pick (d_loadD rfl rfl (by first | rfl | (simp only [cellsD]; rfl))) ?_
    | refine c_passU rfl rfl ?_
    | refine c_passT rfl (by first | rfl | assumption) rfl ?_
    | refine c_passF rfl (by first | rfl | assumption) rfl ?_
    | refine c_pickY rfl (by first | rfl | assumption) (d_indexAddrD rfl rfl rfl (by first | omega | (dsimp only; omega)) (by assumption)) ?_
    | refine c_pickY rfl (by first | rfl | assumption) (d_assignD rfl rfl) ?_
    | refine c_pickY rfl (by first | rfl | assumption) (d_moveD rfl rfl) ?_
    | refine c_pickY rfl (by first | rfl | assumption) (d_bin2B rfl rfl rfl rfl) ?_
    | refine c_pickY rfl (by first | rfl | assumption) (d_pickT rfl rfl (by first | rfl | assumption) rfl) ?_
    | refine c_pickY rfl (by first | rfl | assumption) (d_pickF rfl rfl (by first | rfl | assumption) rfl) ?_
    | refine c_pickY rfl (by first | rfl | assumption) (d_lenD rfl rfl) ?_
    | refine c_pickY rfl (by first | rfl | assumption) (d_not rfl rfl) ?_
    | refine c_pickY rfl (by first | rfl | assumption) (d_ariI rfl rfl rfl rfl (by first | omega | (dsimp only; omega))) ?_
    | refine c_pickY rfl (by first | rfl | assumption) (d_fieldAddrD rfl rfl rfl rfl (by first | rfl | (simp only [cellsD]; rfl))) ?_
    | refine c_pickY rfl (by first | rfl | assumption) (d_loadD rfl rfl (by first | rfl | (simp only [cellsD]; rfl))) ?_
    | refine c_pickD rfl (by assumption) (d_indexAddrD rfl rfl rfl (by first | omega | (dsimp only; omega)) (by assumption)) ?_
    | refine c_pickD rfl (by assumption) (d_assignD rfl rfl) ?_
    | refine c_pickD rfl (by assumption) (d_moveD rfl rfl) ?_
    | refine c_pickD rfl (by assumption) (d_bin2B rfl rfl rfl rfl) ?_
    | refine c_pickD rfl (by assumption) (d_pickT rfl rfl (by first | rfl | assumption) rfl) ?_
    | refine c_pickD rfl (by assumption) (d_pickF rfl rfl (by first | rfl | assumption) rfl) ?_
    | refine c_pickD rfl (by assumption) (d_lenD rfl rfl) ?_
    | refine c_pickD rfl (by assumption) (d_not rfl rfl) ?_
    | refine c_pickD rfl (by assumption) (d_ariI rfl rfl rfl rfl (by first | omega | (dsimp only; omega))) ?_
    | refine c_pickD rfl (by assumption) (d_fieldAddrD rfl rfl rfl rfl (by first | rfl | (simp only [cellsD]; rfl))) ?_
    | refine c_pickD rfl (by assumption) (d_loadD rfl rfl (by first | rfl | (simp only [cellsD]; rfl))) ?_
    | refine c_splitT rfl rfl (fun h => ?_) (fun h => ?_)
    | refine c_splitF rfl rfl (fun h => ?_) (fun h => ?_)
    | fail)
      all_goals exact PLe.refl _
set_option maxHeartbeats 8000000 in
theorem flEquals_p (a b : List (ByteArray × JV)) : PCall Try.prog 98 [dvFl a, dvFl b] (.val (.bool (eqLx eqFd a b))) := by
  refine pcall_fits fun hfit => ?_
  unfold dvFl at hfit ⊢
  have b1 := (hfit (.sl 2 32 (a.map dvFld)) (by simp)).sl.2.1
  clear hfit
  have la : (a.map dvFld).length = a.length := by simp
  have lb : (b.map dvFld).length = b.length := by simp
  have ga : ∀ {i : Nat} {f : ByteArray × JV}, a[i]? = some f → (a.map dvFld)[((i : Nat) : Int).toNat]? = some (dvFld f) := fun h => by simp [h]
  have gb : ∀ {i : Nat} {f : ByteArray × JV}, b[i]? = some f → (b.map dvFld)[((i : Nat) : Int).toNat]? = some (dvFld f) := fun h => by simp [h]
  rw [la] at b1
  generalize a.map dvFld = da at *
  generalize b.map dvFld = db at *
  refine pcall_of_run Try.func98 rfl Try.ntmps98 rfl (fun X => ?_)
  by_cases hl : a.length = b.length
  rotate_left
  · have g1 : decide (((da.length : Nat) : Int) ≠ ((db.length : Nat) : Int)) = true := decide_eq_true (by omega)
    rw [eqLx_len hl]
    repeat' (first
    | refine run_seq ?_
    | (refine k_pick rfl ?_; first
      | refine k_indexAddrD rfl rfl rfl (by first | omega | (dsimp only; omega)) (by assumption) ?_
      | refine k_assignD rfl rfl ?_
      | refine k_moveD rfl rfl ?_
      | refine k_bin2B rfl rfl rfl rfl ?_
      | refine k_pickT rfl rfl (by first | rfl | assumption) rfl ?_
      | refine k_pickF rfl rfl (by first | rfl | assumption) rfl ?_
      | refine k_lenD rfl rfl ?_
      | refine k_not rfl rfl ?_
      | refine k_ariI rfl rfl rfl rfl (by first | omega | (dsimp only; omega)) ?_
      | refine k_fieldAddrD rfl rfl rfl rfl (by first | rfl | (simp only [cellsD]; rfl)) ?_
      | refine k_loadD rfl rfl (by first | rfl | (simp only [cellsD]; rfl)) ?_)
    | refine run_opsEnd ?_
    | refine run_region ?_
    | refine run_condT rfl (by first | rfl | assumption) ?_
    | refine run_condF rfl (by first | rfl | assumption) ?_
    | refine run_cond rfl (fun h => ?_) (fun h => ?_)
    | (refine k_guardY rfl rfl (by first | rfl | assumption) ?_; first
      | refine k_indexAddrD rfl rfl rfl (by first | omega | (dsimp only; omega)) (by assumption) ?_
      | refine k_assignD rfl rfl ?_
      | refine k_moveD rfl rfl ?_
      | refine k_bin2B rfl rfl rfl rfl ?_
      | refine k_pickT rfl rfl (by first | rfl | assumption) rfl ?_
      | refine k_pickF rfl rfl (by first | rfl | assumption) rfl ?_
      | refine k_lenD rfl rfl ?_
      | refine k_not rfl rfl ?_
      | refine k_ariI rfl rfl rfl rfl (by first | omega | (dsimp only; omega)) ?_
      | refine k_fieldAddrD rfl rfl rfl rfl (by first | rfl | (simp only [cellsD]; rfl)) ?_
      | refine k_loadD rfl rfl (by first | rfl | (simp only [cellsD]; rfl)) ?_)
    | refine k_guardU rfl rfl rfl ?_
    | refine k_guardNT rfl rfl (by first | rfl | assumption) rfl ?_
    | refine k_guardNF rfl rfl (by first | rfl | assumption) rfl ?_
    | refine k_guardT rfl rfl rfl (fun h => ?_) (fun h => ?_)
    | refine k_guardF rfl rfl rfl (fun h => ?_) (fun h => ?_)
    | refine run_block ?_
    | refine run_blkEnd ?_
    | refine run_skip ?_
    | refine run_exit rfl ?_
    | refine run_retOk (resOk_tmp rfl rfl ?_)
    | refine run_retOk (resOk_tmp2 rfl rfl rfl ?_ ?_)
    | refine run_retOk (resOk_cell rfl rfl rfl (by first | rfl | (simp only [cellsD]; rfl)) ?_)
    | refine run_retOk (resOk_cellTmp rfl rfl rfl (by first | rfl | (simp only [cellsD]; rfl)) rfl ?_ ?_)
    | (first
      | refine k_indexAddrD rfl rfl rfl (by first | omega | (dsimp only; omega)) (by assumption) ?_
      | refine k_assignD rfl rfl ?_
      | refine k_moveD rfl rfl ?_
      | refine k_bin2B rfl rfl rfl rfl ?_
      | refine k_pickT rfl rfl (by first | rfl | assumption) rfl ?_
      | refine k_pickF rfl rfl (by first | rfl | assumption) rfl ?_
      | refine k_lenD rfl rfl ?_
      | refine k_not rfl rfl ?_
      | refine k_ariI rfl rfl rfl rfl (by first | omega | (dsimp only; omega)) ?_
      | refine k_fieldAddrD rfl rfl rfl rfl (by first | rfl | (simp only [cellsD]; rfl)) ?_
      | refine k_loadD rfl rfl (by first | rfl | (simp only [cellsD]; rfl)) ?_)
    | refine run_drawC (by kernel_rfl) ?_
    | refine c_nil (And.intro (by kernel_rfl) ?_)
    | refine c_pick (d_indexAddrD rfl rfl rfl (by first | omega | (dsimp only; omega)) (by assumption)) ?_
    | refine c_pick (d_assignD rfl rfl) ?_
    | refine c_pick (d_moveD rfl rfl) ?_
    | refine c_pick (d_bin2B rfl rfl rfl rfl) ?_
    | refine c_pick (d_pickT rfl rfl (by first | rfl | assumption) rfl) ?_
    | refine c_pick (d_pickF rfl rfl (by first | rfl | assumption) rfl) ?_
    | refine c_pick (d_lenD rfl rfl) ?_
    | refine c_pick (d_not rfl rfl) ?_
    | refine c_pick (d_ariI rfl rfl rfl rfl (by first | omega | (dsimp only; omega))) ?_
    | refine c_pick (d_fieldAddrD rfl rfl rfl rfl (by first | rfl | (simp only [cellsD]; rfl))) ?_
    | refine c_pick (d_loadD rfl rfl (by first | rfl | (simp only [cellsD]; rfl))) ?_
    | refine c_passU rfl rfl ?_
    | refine c_passT rfl (by first | rfl | assumption) rfl ?_
    | refine c_passF rfl (by first | rfl | assumption) rfl ?_
    | refine c_pickY rfl (by first | rfl | assumption) (d_indexAddrD rfl rfl rfl (by first | omega | (dsimp only; omega)) (by assumption)) ?_
    | refine c_pickY rfl (by first | rfl | assumption) (d_assignD rfl rfl) ?_
    | refine c_pickY rfl (by first | rfl | assumption) (d_moveD rfl rfl) ?_
    | refine c_pickY rfl (by first | rfl | assumption) (d_bin2B rfl rfl rfl rfl) ?_
    | refine c_pickY rfl (by first | rfl | assumption) (d_pickT rfl rfl (by first | rfl | assumption) rfl) ?_
    | refine c_pickY rfl (by first | rfl | assumption) (d_pickF rfl rfl (by first | rfl | assumption) rfl) ?_
    | refine c_pickY rfl (by first | rfl | assumption) (d_lenD rfl rfl) ?_
    | refine c_pickY rfl (by first | rfl | assumption) (d_not rfl rfl) ?_
    | refine c_pickY rfl (by first | rfl | assumption) (d_ariI rfl rfl rfl rfl (by first | omega | (dsimp only; omega))) ?_
    | refine c_pickY rfl (by first | rfl | assumption) (d_fieldAddrD rfl rfl rfl rfl (by first | rfl | (simp only [cellsD]; rfl))) ?_
    | refine c_pickY rfl (by first | rfl | assumption) (d_loadD rfl rfl (by first | rfl | (simp only [cellsD]; rfl))) ?_
    | refine c_pickD rfl (by assumption) (d_indexAddrD rfl rfl rfl (by first | omega | (dsimp only; omega)) (by assumption)) ?_
    | refine c_pickD rfl (by assumption) (d_assignD rfl rfl) ?_
    | refine c_pickD rfl (by assumption) (d_moveD rfl rfl) ?_
    | refine c_pickD rfl (by assumption) (d_bin2B rfl rfl rfl rfl) ?_
    | refine c_pickD rfl (by assumption) (d_pickT rfl rfl (by first | rfl | assumption) rfl) ?_
    | refine c_pickD rfl (by assumption) (d_pickF rfl rfl (by first | rfl | assumption) rfl) ?_
    | refine c_pickD rfl (by assumption) (d_lenD rfl rfl) ?_
    | refine c_pickD rfl (by assumption) (d_not rfl rfl) ?_
    | refine c_pickD rfl (by assumption) (d_ariI rfl rfl rfl rfl (by first | omega | (dsimp only; omega))) ?_
    | refine c_pickD rfl (by assumption) (d_fieldAddrD rfl rfl rfl rfl (by first | rfl | (simp only [cellsD]; rfl))) ?_
    | refine c_pickD rfl (by assumption) (d_loadD rfl rfl (by first | rfl | (simp only [cellsD]; rfl))) ?_
    | refine c_splitT rfl rfl (fun h => ?_) (fun h => ?_)
    | refine c_splitF rfl rfl (fun h => ?_) (fun h => ?_)
    | fail)
    all_goals exact PLe.refl _
  have g1 : decide (((da.length : Nat) : Int) ≠ ((db.length : Nat) : Int)) = false := decide_eq_false (by omega)
  repeat' (first
    | refine run_seq ?_
    | (refine k_pick rfl ?_; first
      | refine k_indexAddrD rfl rfl rfl (by first | omega | (dsimp only; omega)) (by assumption) ?_
      | refine k_assignD rfl rfl ?_
      | refine k_moveD rfl rfl ?_
      | refine k_bin2B rfl rfl rfl rfl ?_
      | refine k_pickT rfl rfl (by first | rfl | assumption) rfl ?_
      | refine k_pickF rfl rfl (by first | rfl | assumption) rfl ?_
      | refine k_lenD rfl rfl ?_
      | refine k_not rfl rfl ?_
      | refine k_ariI rfl rfl rfl rfl (by first | omega | (dsimp only; omega)) ?_
      | refine k_fieldAddrD rfl rfl rfl rfl (by first | rfl | (simp only [cellsD]; rfl)) ?_
      | refine k_loadD rfl rfl (by first | rfl | (simp only [cellsD]; rfl)) ?_)
    | refine run_opsEnd ?_
    | refine run_region ?_
    | refine run_condT rfl (by first | rfl | assumption) ?_
    | refine run_condF rfl (by first | rfl | assumption) ?_
    | refine run_cond rfl (fun h => ?_) (fun h => ?_)
    | (refine k_guardY rfl rfl (by first | rfl | assumption) ?_; first
      | refine k_indexAddrD rfl rfl rfl (by first | omega | (dsimp only; omega)) (by assumption) ?_
      | refine k_assignD rfl rfl ?_
      | refine k_moveD rfl rfl ?_
      | refine k_bin2B rfl rfl rfl rfl ?_
      | refine k_pickT rfl rfl (by first | rfl | assumption) rfl ?_
      | refine k_pickF rfl rfl (by first | rfl | assumption) rfl ?_
      | refine k_lenD rfl rfl ?_
      | refine k_not rfl rfl ?_
      | refine k_ariI rfl rfl rfl rfl (by first | omega | (dsimp only; omega)) ?_
      | refine k_fieldAddrD rfl rfl rfl rfl (by first | rfl | (simp only [cellsD]; rfl)) ?_
      | refine k_loadD rfl rfl (by first | rfl | (simp only [cellsD]; rfl)) ?_)
    | refine k_guardU rfl rfl rfl ?_
    | refine k_guardNT rfl rfl (by first | rfl | assumption) rfl ?_
    | refine k_guardNF rfl rfl (by first | rfl | assumption) rfl ?_
    | refine k_guardT rfl rfl rfl (fun h => ?_) (fun h => ?_)
    | refine k_guardF rfl rfl rfl (fun h => ?_) (fun h => ?_)
    | refine run_block ?_
    | refine run_blkEnd ?_
    | refine run_skip ?_
    | refine run_exit rfl ?_
    | refine run_retOk (resOk_tmp rfl rfl ?_)
    | refine run_retOk (resOk_tmp2 rfl rfl rfl ?_ ?_)
    | refine run_retOk (resOk_cell rfl rfl rfl (by first | rfl | (simp only [cellsD]; rfl)) ?_)
    | refine run_retOk (resOk_cellTmp rfl rfl rfl (by first | rfl | (simp only [cellsD]; rfl)) rfl ?_ ?_)
    | (first
      | refine k_indexAddrD rfl rfl rfl (by first | omega | (dsimp only; omega)) (by assumption) ?_
      | refine k_assignD rfl rfl ?_
      | refine k_moveD rfl rfl ?_
      | refine k_bin2B rfl rfl rfl rfl ?_
      | refine k_pickT rfl rfl (by first | rfl | assumption) rfl ?_
      | refine k_pickF rfl rfl (by first | rfl | assumption) rfl ?_
      | refine k_lenD rfl rfl ?_
      | refine k_not rfl rfl ?_
      | refine k_ariI rfl rfl rfl rfl (by first | omega | (dsimp only; omega)) ?_
      | refine k_fieldAddrD rfl rfl rfl rfl (by first | rfl | (simp only [cellsD]; rfl)) ?_
      | refine k_loadD rfl rfl (by first | rfl | (simp only [cellsD]; rfl)) ?_)
    | refine run_drawC (by kernel_rfl) ?_
    | refine c_nil (And.intro (by kernel_rfl) ?_)
    | refine c_pick (d_indexAddrD rfl rfl rfl (by first | omega | (dsimp only; omega)) (by assumption)) ?_
    | refine c_pick (d_assignD rfl rfl) ?_
    | refine c_pick (d_moveD rfl rfl) ?_
    | refine c_pick (d_bin2B rfl rfl rfl rfl) ?_
    | refine c_pick (d_pickT rfl rfl (by first | rfl | assumption) rfl) ?_
    | refine c_pick (d_pickF rfl rfl (by first | rfl | assumption) rfl) ?_
    | refine c_pick (d_lenD rfl rfl) ?_
    | refine c_pick (d_not rfl rfl) ?_
    | refine c_pick (d_ariI rfl rfl rfl rfl (by first | omega | (dsimp only; omega))) ?_
    | refine c_pick (d_fieldAddrD rfl rfl rfl rfl (by first | rfl | (simp only [cellsD]; rfl))) ?_
    | refine c_pick (d_loadD rfl rfl (by first | rfl | (simp only [cellsD]; rfl))) ?_
    | refine c_passU rfl rfl ?_
    | refine c_passT rfl (by first | rfl | assumption) rfl ?_
    | refine c_passF rfl (by first | rfl | assumption) rfl ?_
    | refine c_pickY rfl (by first | rfl | assumption) (d_indexAddrD rfl rfl rfl (by first | omega | (dsimp only; omega)) (by assumption)) ?_
    | refine c_pickY rfl (by first | rfl | assumption) (d_assignD rfl rfl) ?_
    | refine c_pickY rfl (by first | rfl | assumption) (d_moveD rfl rfl) ?_
    | refine c_pickY rfl (by first | rfl | assumption) (d_bin2B rfl rfl rfl rfl) ?_
    | refine c_pickY rfl (by first | rfl | assumption) (d_pickT rfl rfl (by first | rfl | assumption) rfl) ?_
    | refine c_pickY rfl (by first | rfl | assumption) (d_pickF rfl rfl (by first | rfl | assumption) rfl) ?_
    | refine c_pickY rfl (by first | rfl | assumption) (d_lenD rfl rfl) ?_
    | refine c_pickY rfl (by first | rfl | assumption) (d_not rfl rfl) ?_
    | refine c_pickY rfl (by first | rfl | assumption) (d_ariI rfl rfl rfl rfl (by first | omega | (dsimp only; omega))) ?_
    | refine c_pickY rfl (by first | rfl | assumption) (d_fieldAddrD rfl rfl rfl rfl (by first | rfl | (simp only [cellsD]; rfl))) ?_
    | refine c_pickY rfl (by first | rfl | assumption) (d_loadD rfl rfl (by first | rfl | (simp only [cellsD]; rfl))) ?_
    | refine c_pickD rfl (by assumption) (d_indexAddrD rfl rfl rfl (by first | omega | (dsimp only; omega)) (by assumption)) ?_
    | refine c_pickD rfl (by assumption) (d_assignD rfl rfl) ?_
    | refine c_pickD rfl (by assumption) (d_moveD rfl rfl) ?_
    | refine c_pickD rfl (by assumption) (d_bin2B rfl rfl rfl rfl) ?_
    | refine c_pickD rfl (by assumption) (d_pickT rfl rfl (by first | rfl | assumption) rfl) ?_
    | refine c_pickD rfl (by assumption) (d_pickF rfl rfl (by first | rfl | assumption) rfl) ?_
    | refine c_pickD rfl (by assumption) (d_lenD rfl rfl) ?_
    | refine c_pickD rfl (by assumption) (d_not rfl rfl) ?_
    | refine c_pickD rfl (by assumption) (d_ariI rfl rfl rfl rfl (by first | omega | (dsimp only; omega))) ?_
    | refine c_pickD rfl (by assumption) (d_fieldAddrD rfl rfl rfl rfl (by first | rfl | (simp only [cellsD]; rfl))) ?_
    | refine c_pickD rfl (by assumption) (d_loadD rfl rfl (by first | rfl | (simp only [cellsD]; rfl))) ?_
    | refine c_splitT rfl rfl (fun h => ?_) (fun h => ?_)
    | refine c_splitF rfl rfl (fun h => ?_) (fun h => ?_)
    | fail)
  refine run_loopS (ι := { j : Nat // j ≤ a.length ∧ ∀ i x y, i < j → a[i]? = some x → b[i]? = some y → eqFd x y = true })
    (fun j => [(0, .dat (.sl 2 32 da)), (1, .dat (.sl 2 32 db)), (12, .dat (.val (.int .i64 ((da.length : Nat) : Int)))), (13, .dat (.val (.int .i64 (j.1 : Nat))))])
    (fun _ => []) (fun j => a.length - j.1) ⟨0, Nat.zero_le _, fun i _ _ h => absurd h (Nat.not_lt_zero i)⟩ id ?_ ?_
  · (refine ⟨?_, ?_, by rfl⟩ <;> repeat' (first | exact trivial | exact ALe.ptr rfl | exact ALe.own rfl | exact ALe.elt rfl | exact BLe.boxD _ _ | exact BLe.row rfl | exact BLe.res | exact BLe.dead rfl | exact ALe.dat (PLe.refl _) | exact CLe.nil | refine And.intro ?_ ?_ | refine ALe.iface ?_ | refine ALe.clo ?_ | refine CLe.cons ?_ ?_ | refine BLe.box ?_ | refine BLe.row ?_ | exact ALe.any _ | refine ALe.dat (PLe.of_eq ?_)))
  rintro ⟨j, hj, hall⟩
  by_cases hlt : j < a.length
  · have g2 : decide ((j : Int) < ((da.length : Nat) : Int)) = true := decide_eq_true (by omega)
    obtain ⟨x, hx⟩ : ∃ x, a[j]? = some x := ⟨_, List.getElem?_eq_getElem hlt⟩
    obtain ⟨y, hy⟩ : ∃ y, b[j]? = some y := ⟨_, List.getElem?_eq_getElem (by omega)⟩
    have i1 := ga hx
    have i2 := gb hy
    have c2 := equals_p x.2 y.2
    by_cases hs : x.1 = y.1
    · have g3 : decide (x.1 ≠ y.1) = false := decide_eq_false (by simp [hs])
      have g3' : (!decide (x.1 = y.1)) = false := by simp [hs]
      cases hv : eqJ x.2 y.2 with
      | true =>
        rw [hv] at c2
        repeat' (first
    | refine run_seq ?_
    | (refine k_pick rfl ?_; first
      | refine k_indexAddrD rfl rfl rfl (by first | omega | (dsimp only; omega)) (by assumption) ?_
      | refine k_assignD rfl rfl ?_
      | refine k_moveD rfl rfl ?_
      | refine k_bin2B rfl rfl rfl rfl ?_
      | refine k_pickT rfl rfl (by first | rfl | assumption) rfl ?_
      | refine k_pickF rfl rfl (by first | rfl | assumption) rfl ?_
      | refine k_call rfl (by kernel_rfl) rfl (by first | exact c2) ?_
      | refine k_lenD rfl rfl ?_
      | refine k_not rfl rfl ?_
      | refine k_ariI rfl rfl rfl rfl (by first | omega | (dsimp only; omega)) ?_
      | refine k_fieldAddrD rfl rfl rfl rfl (by first | rfl | (simp only [cellsD]; rfl)) ?_
      | refine k_loadD rfl rfl (by first | rfl | (simp only [cellsD]; rfl)) ?_)
    | refine run_opsEnd ?_
    | refine run_region ?_
    | refine run_condT rfl (by first | rfl | assumption) ?_
    | refine run_condF rfl (by first | rfl | assumption) ?_
    | refine run_cond rfl (fun h => ?_) (fun h => ?_)
    | (refine k_guardY rfl rfl (by first | rfl | assumption) ?_; first
      | refine k_indexAddrD rfl rfl rfl (by first | omega | (dsimp only; omega)) (by assumption) ?_
      | refine k_assignD rfl rfl ?_
      | refine k_moveD rfl rfl ?_
      | refine k_bin2B rfl rfl rfl rfl ?_
      | refine k_pickT rfl rfl (by first | rfl | assumption) rfl ?_
      | refine k_pickF rfl rfl (by first | rfl | assumption) rfl ?_
      | refine k_call rfl (by kernel_rfl) rfl (by first | exact c2) ?_
      | refine k_lenD rfl rfl ?_
      | refine k_not rfl rfl ?_
      | refine k_ariI rfl rfl rfl rfl (by first | omega | (dsimp only; omega)) ?_
      | refine k_fieldAddrD rfl rfl rfl rfl (by first | rfl | (simp only [cellsD]; rfl)) ?_
      | refine k_loadD rfl rfl (by first | rfl | (simp only [cellsD]; rfl)) ?_)
    | refine k_guardU rfl rfl rfl ?_
    | refine k_guardNT rfl rfl (by first | rfl | assumption) rfl ?_
    | refine k_guardNF rfl rfl (by first | rfl | assumption) rfl ?_
    | refine k_guardT rfl rfl rfl (fun h => ?_) (fun h => ?_)
    | refine k_guardF rfl rfl rfl (fun h => ?_) (fun h => ?_)
    | refine run_block ?_
    | refine run_blkEnd ?_
    | refine run_skip ?_
    | refine run_exit rfl ?_
    | refine run_retOk (resOk_tmp rfl rfl ?_)
    | refine run_retOk (resOk_tmp2 rfl rfl rfl ?_ ?_)
    | refine run_retOk (resOk_cell rfl rfl rfl (by first | rfl | (simp only [cellsD]; rfl)) ?_)
    | refine run_retOk (resOk_cellTmp rfl rfl rfl (by first | rfl | (simp only [cellsD]; rfl)) rfl ?_ ?_)
    | (first
      | refine k_indexAddrD rfl rfl rfl (by first | omega | (dsimp only; omega)) (by assumption) ?_
      | refine k_assignD rfl rfl ?_
      | refine k_moveD rfl rfl ?_
      | refine k_bin2B rfl rfl rfl rfl ?_
      | refine k_pickT rfl rfl (by first | rfl | assumption) rfl ?_
      | refine k_pickF rfl rfl (by first | rfl | assumption) rfl ?_
      | refine k_call rfl (by kernel_rfl) rfl (by first | exact c2) ?_
      | refine k_lenD rfl rfl ?_
      | refine k_not rfl rfl ?_
      | refine k_ariI rfl rfl rfl rfl (by first | omega | (dsimp only; omega)) ?_
      | refine k_fieldAddrD rfl rfl rfl rfl (by first | rfl | (simp only [cellsD]; rfl)) ?_
      | refine k_loadD rfl rfl (by first | rfl | (simp only [cellsD]; rfl)) ?_)
    | refine run_drawC (by kernel_rfl) ?_
    | refine c_nil (And.intro (by kernel_rfl) ?_)
    | refine c_pick (d_indexAddrD rfl rfl rfl (by first | omega | (dsimp only; omega)) (by assumption)) ?_
    | refine c_pick (d_assignD rfl rfl) ?_
    | refine c_pick (d_moveD rfl rfl) ?_
    | refine c_pick (d_bin2B rfl rfl rfl rfl) ?_
    | refine c_pick (d_pickT rfl rfl (by first | rfl | assumption) rfl) ?_
    | refine c_pick (d_pickF rfl rfl (by first | rfl | assumption) rfl) ?_
    | refine c_pick (d_call rfl (by kernel_rfl) rfl (by first | exact c2)) ?_
    | refine c_pick (d_lenD rfl rfl) ?_
    | refine c_pick (d_not rfl rfl) ?_
    | refine c_pick (d_ariI rfl rfl rfl rfl (by first | omega | (dsimp only; omega))) ?_
    | refine c_pick (d_fieldAddrD rfl rfl rfl rfl (by first | rfl | (simp only [cellsD]; rfl))) ?_
    | refine c_pick (d_loadD rfl rfl (by first | rfl | (simp only [cellsD]; rfl))) ?_
    | refine c_passU rfl rfl ?_
    | refine c_passT rfl (by first | rfl | assumption) rfl ?_
    | refine c_passF rfl (by first | rfl | assumption) rfl ?_
    | refine c_pickY rfl (by first | rfl | assumption) (d_indexAddrD rfl rfl rfl (by first | omega | (dsimp only; omega)) (by assumption)) ?_
    | refine c_pickY rfl (by first | rfl | assumption) (d_assignD rfl rfl) ?_
    | refine c_pickY rfl (by first | rfl | assumption) (d_moveD rfl rfl) ?_
    | refine c_pickY rfl (by first | rfl | assumption) (d_bin2B rfl rfl rfl rfl) ?_
    | refine c_pickY rfl (by first | rfl | assumption) (d_pickT rfl rfl (by first | rfl | assumption) rfl) ?_
    | refine c_pickY rfl (by first | rfl | assumption) (d_pickF rfl rfl (by first | rfl | assumption) rfl) ?_
    | refine c_pickY rfl (by first | rfl | assumption) (d_call rfl (by kernel_rfl) rfl (by first | exact c2)) ?_
    | refine c_pickY rfl (by first | rfl | assumption) (d_lenD rfl rfl) ?_
    | refine c_pickY rfl (by first | rfl | assumption) (d_not rfl rfl) ?_
    | refine c_pickY rfl (by first | rfl | assumption) (d_ariI rfl rfl rfl rfl (by first | omega | (dsimp only; omega))) ?_
    | refine c_pickY rfl (by first | rfl | assumption) (d_fieldAddrD rfl rfl rfl rfl (by first | rfl | (simp only [cellsD]; rfl))) ?_
    | refine c_pickY rfl (by first | rfl | assumption) (d_loadD rfl rfl (by first | rfl | (simp only [cellsD]; rfl))) ?_
    | refine c_pickD rfl (by assumption) (d_indexAddrD rfl rfl rfl (by first | omega | (dsimp only; omega)) (by assumption)) ?_
    | refine c_pickD rfl (by assumption) (d_assignD rfl rfl) ?_
    | refine c_pickD rfl (by assumption) (d_moveD rfl rfl) ?_
    | refine c_pickD rfl (by assumption) (d_bin2B rfl rfl rfl rfl) ?_
    | refine c_pickD rfl (by assumption) (d_pickT rfl rfl (by first | rfl | assumption) rfl) ?_
    | refine c_pickD rfl (by assumption) (d_pickF rfl rfl (by first | rfl | assumption) rfl) ?_
    | refine c_pickD rfl (by assumption) (d_call rfl (by kernel_rfl) rfl (by first | exact c2)) ?_
    | refine c_pickD rfl (by assumption) (d_lenD rfl rfl) ?_
    | refine c_pickD rfl (by assumption) (d_not rfl rfl) ?_
    | refine c_pickD rfl (by assumption) (d_ariI rfl rfl rfl rfl (by first | omega | (dsimp only; omega))) ?_
    | refine c_pickD rfl (by assumption) (d_fieldAddrD rfl rfl rfl rfl (by first | rfl | (simp only [cellsD]; rfl))) ?_
    | refine c_pickD rfl (by assumption) (d_loadD rfl rfl (by first | rfl | (simp only [cellsD]; rfl))) ?_
    | refine c_splitT rfl rfl (fun h => ?_) (fun h => ?_)
    | refine c_splitF rfl rfl (fun h => ?_) (fun h => ?_)
    | fail)
        refine run_again ?_
        refine ⟨⟨j + 1, by omega, fun i x' y' hi hx' hy' => ?_⟩, id, by simp only; omega, ?_⟩
        · by_cases e : i = j
          · subst e
            rw [hx] at hx'; rw [hy] at hy'
            cases hx'; cases hy'
            unfold eqFd
            rw [hv]; simp [hs]
          · exact hall i x' y' (by omega) hx' hy'
        (refine ⟨?_, ?_, by rfl⟩ <;> repeat' (first | exact trivial | exact ALe.ptr rfl | exact ALe.own rfl | exact ALe.elt rfl | exact BLe.boxD _ _ | exact BLe.row rfl | exact BLe.res | exact BLe.dead rfl | exact ALe.dat (PLe.refl _) | exact CLe.nil | refine And.intro ?_ ?_ | refine ALe.iface ?_ | refine ALe.clo ?_ | refine CLe.cons ?_ ?_ | refine BLe.box ?_ | refine BLe.row ?_ | exact ALe.any _ | refine ALe.dat (PLe.of_eq ?_)))
      | false =>
        rw [hv] at c2
        rw [eqLx_no hx hy (by unfold eqFd; rw [hv]; simp)]
        repeat' (first
    | refine run_seq ?_
    | (refine k_pick rfl ?_; first
      | refine k_indexAddrD rfl rfl rfl (by first | omega | (dsimp only; omega)) (by assumption) ?_
      | refine k_assignD rfl rfl ?_
      | refine k_moveD rfl rfl ?_
      | refine k_bin2B rfl rfl rfl rfl ?_
      | refine k_pickT rfl rfl (by first | rfl | assumption) rfl ?_
      | refine k_pickF rfl rfl (by first | rfl | assumption) rfl ?_
      | refine k_call rfl (by kernel_rfl) rfl (by first | exact c2) ?_
      | refine k_lenD rfl rfl ?_
      | refine k_not rfl rfl ?_
      | refine k_ariI rfl rfl rfl rfl (by first | omega | (dsimp only; omega)) ?_
      | refine k_fieldAddrD rfl rfl rfl rfl (by first | rfl | (simp only [cellsD]; rfl)) ?_
      | refine k_loadD rfl rfl (by first | rfl | (simp only [cellsD]; rfl)) ?_)
    | refine run_opsEnd ?_
    | refine run_region ?_
    | refine run_condT rfl (by first | rfl | assumption) ?_
    | refine run_condF rfl (by first | rfl | assumption) ?_
    | refine run_cond rfl (fun h => ?_) (fun h => ?_)
    | (refine k_guardY rfl rfl (by first | rfl | assumption) ?_; first
      | refine k_indexAddrD rfl rfl rfl (by first | omega | (dsimp only; omega)) (by assumption) ?_
      | refine k_assignD rfl rfl ?_
      | refine k_moveD rfl rfl ?_
      | refine k_bin2B rfl rfl rfl rfl ?_
      | refine k_pickT rfl rfl (by first | rfl | assumption) rfl ?_
      | refine k_pickF rfl rfl (by first | rfl | assumption) rfl ?_
      | refine k_call rfl (by kernel_rfl) rfl (by first | exact c2) ?_
      | refine k_lenD rfl rfl ?_
      | refine k_not rfl rfl ?_
      | refine k_ariI rfl rfl rfl rfl (by first | omega | (dsimp only; omega)) ?_
      | refine k_fieldAddrD rfl rfl rfl rfl (by first | rfl | (simp only [cellsD]; rfl)) ?_
      | refine k_loadD rfl rfl (by first | rfl | (simp only [cellsD]; rfl)) ?_)
    | refine k_guardU rfl rfl rfl ?_
    | refine k_guardNT rfl rfl (by first | rfl | assumption) rfl ?_
    | refine k_guardNF rfl rfl (by first | rfl | assumption) rfl ?_
    | refine k_guardT rfl rfl rfl (fun h => ?_) (fun h => ?_)
    | refine k_guardF rfl rfl rfl (fun h => ?_) (fun h => ?_)
    | refine run_block ?_
    | refine run_blkEnd ?_
    | refine run_skip ?_
    | refine run_exit rfl ?_
    | refine run_retOk (resOk_tmp rfl rfl ?_)
    | refine run_retOk (resOk_tmp2 rfl rfl rfl ?_ ?_)
    | refine run_retOk (resOk_cell rfl rfl rfl (by first | rfl | (simp only [cellsD]; rfl)) ?_)
    | refine run_retOk (resOk_cellTmp rfl rfl rfl (by first | rfl | (simp only [cellsD]; rfl)) rfl ?_ ?_)
    | (first
      | refine k_indexAddrD rfl rfl rfl (by first | omega | (dsimp only; omega)) (by assumption) ?_
      | refine k_assignD rfl rfl ?_
      | refine k_moveD rfl rfl ?_
      | refine k_bin2B rfl rfl rfl rfl ?_
      | refine k_pickT rfl rfl (by first | rfl | assumption) rfl ?_
      | refine k_pickF rfl rfl (by first | rfl | assumption) rfl ?_
      | refine k_call rfl (by kernel_rfl) rfl (by first | exact c2) ?_
      | refine k_lenD rfl rfl ?_
      | refine k_not rfl rfl ?_
      | refine k_ariI rfl rfl rfl rfl (by first | omega | (dsimp only; omega)) ?_
      | refine k_fieldAddrD rfl rfl rfl rfl (by first | rfl | (simp only [cellsD]; rfl)) ?_
      | refine k_loadD rfl rfl (by first | rfl | (simp only [cellsD]; rfl)) ?_)
    | refine run_drawC (by kernel_rfl) ?_
    | refine c_nil (And.intro (by kernel_rfl) ?_)
    | refine c_pick (d_indexAddrD rfl rfl rfl (by first | omega | (dsimp only; omega)) (by assumption)) ?_
    | refine c_pick (d_assignD rfl rfl) ?_
    | refine c_pick (d_moveD rfl rfl) ?_
    | refine c_pick (d_bin2B rfl rfl rfl rfl) ?_
    | refine c_pick (d_pickT rfl rfl (by first | rfl | assumption) rfl) ?_
    | refine c_pick (d_pickF rfl rfl (by first | rfl | assumption) rfl) ?_
    | refine c_pick (d_call rfl (by kernel_rfl) rfl (by first | exact c2)) ?_
    | refine c_pick (d_lenD rfl rfl) ?_
    | refine c_pick (d_not rfl rfl) ?_
    | refine c_pick (d_ariI rfl rfl rfl rfl (by first | omega | (dsimp only; omega))) ?_
    | refine c_pick (d_fieldAddrD rfl rfl rfl rfl (by first | rfl | (simp only [cellsD]; rfl))) ?_
    | refine c_pick (d_loadD rfl rfl (by first | rfl | (simp only [cellsD]; rfl))) ?_
    | refine c_passU rfl rfl ?_
    | refine c_passT rfl (by first | rfl | assumption) rfl ?_
    | refine c_passF rfl (by first | rfl | assumption) rfl ?_
    | refine c_pickY rfl (by first | rfl | assumption) (d_indexAddrD rfl rfl rfl (by first | omega | (dsimp only; omega)) (by assumption)) ?_
    | refine c_pickY rfl (by first | rfl | assumption) (d_assignD rfl rfl) ?_
    | refine c_pickY rfl (by first | rfl | assumption) (d_moveD rfl rfl) ?_
    | refine c_pickY rfl (by first | rfl | assumption) (d_bin2B rfl rfl rfl rfl) ?_
    | refine c_pickY rfl (by first | rfl | assumption) (d_pickT rfl rfl (by first | rfl | assumption) rfl) ?_
    | refine c_pickY rfl (by first | rfl | assumption) (d_pickF rfl rfl (by first | rfl | assumption) rfl) ?_
    | refine c_pickY rfl (by first | rfl | assumption) (d_call rfl (by kernel_rfl) rfl (by first | exact c2)) ?_
    | refine c_pickY rfl (by first | rfl | assumption) (d_lenD rfl rfl) ?_
    | refine c_pickY rfl (by first | rfl | assumption) (d_not rfl rfl) ?_
    | refine c_pickY rfl (by first | rfl | assumption) (d_ariI rfl rfl rfl rfl (by first | omega | (dsimp only; omega))) ?_
    | refine c_pickY rfl (by first | rfl | assumption) (d_fieldAddrD rfl rfl rfl rfl (by first | rfl | (simp only [cellsD]; rfl))) ?_
    | refine c_pickY rfl (by first | rfl | assumption) (d_loadD rfl rfl (by first | rfl | (simp only [cellsD]; rfl))) ?_
    | refine c_pickD rfl (by assumption) (d_indexAddrD rfl rfl rfl (by first | omega | (dsimp only; omega)) (by assumption)) ?_
    | refine c_pickD rfl (by assumption) (d_assignD rfl rfl) ?_
    | refine c_pickD rfl (by assumption) (d_moveD rfl rfl) ?_
    | refine c_pickD rfl (by assumption) (d_bin2B rfl rfl rfl rfl) ?_
    | refine c_pickD rfl (by assumption) (d_pickT rfl rfl (by first | rfl | assumption) rfl) ?_
    | refine c_pickD rfl (by assumption) (d_pickF rfl rfl (by first | rfl | assumption) rfl) ?_
    | refine c_pickD rfl (by assumption) (d_call rfl (by kernel_rfl) rfl (by first | exact c2)) ?_
    | refine c_pickD rfl (by assumption) (d_lenD rfl rfl) ?_
    | refine c_pickD rfl (by assumption) (d_not rfl rfl) ?_
    | refine c_pickD rfl (by assumption) (d_ariI rfl rfl rfl rfl (by first | omega | (dsimp only; omega))) ?_
    | refine c_pickD rfl (by assumption) (d_fieldAddrD rfl rfl rfl rfl (by first | rfl | (simp only [cellsD]; rfl))) ?_
    | refine c_pickD rfl (by assumption) (d_loadD rfl rfl (by first | rfl | (simp only [cellsD]; rfl))) ?_
    | refine c_splitT rfl rfl (fun h => ?_) (fun h => ?_)
    | refine c_splitF rfl rfl (fun h => ?_) (fun h => ?_)
    | fail)
        all_goals exact PLe.refl _
    · have g3 : decide (x.1 ≠ y.1) = true := decide_eq_true hs
      have g3' : (!decide (x.1 = y.1)) = true := by simp [hs]
      rw [eqLx_no hx hy (by unfold eqFd; simp [hs])]
      repeat' (first
    | refine run_seq ?_
    | (refine k_pick rfl ?_; first
      | refine k_indexAddrD rfl rfl rfl (by first | omega | (dsimp only; omega)) (by assumption) ?_
      | refine k_assignD rfl rfl ?_
      | refine k_moveD rfl rfl ?_
      | refine k_bin2B rfl rfl rfl rfl ?_
      | refine k_pickT rfl rfl (by first | rfl | assumption) rfl ?_
      | refine k_pickF rfl rfl (by first | rfl | assumption) rfl ?_
      | refine k_call rfl (by kernel_rfl) rfl (by first | exact c2) ?_
      | refine k_lenD rfl rfl ?_
      | refine k_not rfl rfl ?_
      | refine k_ariI rfl rfl rfl rfl (by first | omega | (dsimp only; omega)) ?_
      | refine k_fieldAddrD rfl rfl rfl rfl (by first | rfl | (simp only [cellsD]; rfl)) ?_
      | refine k_loadD rfl rfl (by first | rfl | (simp only [cellsD]; rfl)) ?_)
    | refine run_opsEnd ?_
    | refine run_region ?_
    | refine run_condT rfl (by first | rfl | assumption) ?_
    | refine run_condF rfl (by first | rfl | assumption) ?_
    | refine run_cond rfl (fun h => ?_) (fun h => ?_)
    | (refine k_guardY rfl rfl (by first | rfl | assumption) ?_; first
      | refine k_indexAddrD rfl rfl rfl (by first | omega | (dsimp only; omega)) (by assumption) ?_
      | refine k_assignD rfl rfl ?_
      | refine k_moveD rfl rfl ?_
      | refine k_bin2B rfl rfl rfl rfl ?_
      | refine k_pickT rfl rfl (by first | rfl | assumption) rfl ?_
      | refine k_pickF rfl rfl (by first | rfl | assumption) rfl ?_
      | refine k_call rfl (by kernel_rfl) rfl (by first | exact c2) ?_
      | refine k_lenD rfl rfl ?_
      | refine k_not rfl rfl ?_
      | refine k_ariI rfl rfl rfl rfl (by first | omega | (dsimp only; omega)) ?_
      | refine k_fieldAddrD rfl rfl rfl rfl (by first | rfl | (simp only [cellsD]; rfl)) ?_
      | refine k_loadD rfl rfl (by first | rfl | (simp only [cellsD]; rfl)) ?_)
    | refine k_guardU rfl rfl rfl ?_
    | refine k_guardNT rfl rfl (by first | rfl | assumption) rfl ?_
    | refine k_guardNF rfl rfl (by first | rfl | assumption) rfl ?_
    | refine k_guardT rfl rfl rfl (fun h => ?_) (fun h => ?_)
    | refine k_guardF rfl rfl rfl (fun h => ?_) (fun h => ?_)
    | refine run_block ?_
    | refine run_blkEnd ?_
    | refine run_skip ?_
    | refine run_exit rfl ?_
    | refine run_retOk (resOk_tmp rfl rfl ?_)
    | refine run_retOk (resOk_tmp2 rfl rfl rfl ?_ ?_)
    | refine run_retOk (resOk_cell rfl rfl rfl (by first | rfl | (simp only [cellsD]; rfl)) ?_)
    | refine run_retOk (resOk_cellTmp rfl rfl rfl (by first | rfl | (simp only [cellsD]; rfl)) rfl ?_ ?_)
    | (first
      | refine k_indexAddrD rfl rfl rfl (by first | omega | (dsimp only; omega)) (by assumption) ?_
      | refine k_assignD rfl rfl ?_
      | refine k_moveD rfl rfl ?_
      | refine k_bin2B rfl rfl rfl rfl ?_
      | refine k_pickT rfl rfl (by first | rfl | assumption) rfl ?_
      | refine k_pickF rfl rfl (by first | rfl | assumption) rfl ?_
      | refine k_call rfl (by kernel_rfl) rfl (by first | exact c2) ?_
      | refine k_lenD rfl rfl ?_
      | refine k_not rfl rfl ?_
      | refine k_ariI rfl rfl rfl rfl (by first | omega | (dsimp only; omega)) ?_
      | refine k_fieldAddrD rfl rfl rfl rfl (by first | rfl | (simp only [cellsD]; rfl)) ?_
      | refine k_loadD rfl rfl (by first | rfl | (simp only [cellsD]; rfl)) ?_)
    | refine run_drawC (by kernel_rfl) ?_
    | refine c_nil (And.intro (by kernel_rfl) ?_)
    | refine c_pick (d_indexAddrD rfl rfl rfl (by first | omega | (dsimp only; omega)) (by assumption)) ?_
    | refine c_pick (d_assignD rfl rfl) ?_
    | refine c_pick (d_moveD rfl rfl) ?_
    | refine c_pick (d_bin2B rfl rfl rfl rfl) ?_
    | refine c_pick (d_pickT rfl rfl (by first | rfl | assumption) rfl) ?_
    | refine c_pick (d_pickF rfl rfl (by first | rfl | assumption) rfl) ?_
    | refine c_pick (d_call rfl (by kernel_rfl) rfl (by first | exact c2)) ?_
    | refine c_pick (d_lenD rfl rfl) ?_
    | refine c_pick (d_not rfl rfl) ?_
    | refine c_pick (d_ariI rfl rfl rfl rfl (by first | omega | (dsimp only; omega))) ?_
    | refine c_pick (d_fieldAddrD rfl rfl rfl rfl (by first | rfl | (simp only [cellsD]; rfl))) ?_
    | refine c_pick (d_loadD rfl rfl (by first | rfl | (simp only [cellsD]; rfl))) ?_
    | refine c_passU rfl rfl ?_
    | refine c_passT rfl (by first | rfl | assumption) rfl ?_
    | refine c_passF rfl (by first | rfl | assumption) rfl ?_
    | refine c_pickY rfl (by first | rfl | assumption) (d_indexAddrD rfl rfl rfl (by first | omega | (dsimp only; omega)) (by assumption)) ?_
    | refine c_pickY rfl (by first | rfl | assumption) (d_assignD rfl rfl) ?_
    | refine c_pickY rfl (by first | rfl | assumption) (d_moveD rfl rfl) ?_
    | refine c_pickY rfl (by first | rfl | assumption) (d_bin2B rfl rfl rfl rfl) ?_
    | refine c_pickY rfl (by first | rfl | assumption) (d_pickT rfl rfl (by first | rfl | assumption) rfl) ?_
    | refine c_pickY rfl (by first | rfl | assumption) (d_pickF rfl rfl (by first | rfl | assumption) rfl) ?_
    | refine c_pickY rfl (by first | rfl | assumption) (d_call rfl (by kernel_rfl) rfl (by first | exact c2)) ?_
    | refine c_pickY rfl (by first | rfl | assumption) (d_lenD rfl rfl) ?_
    | refine c_pickY rfl (by first | rfl | assumption) (d_not rfl rfl) ?_
    | refine c_pickY rfl (by first | rfl | assumption) (d_ariI rfl rfl rfl rfl (by first | omega | (dsimp only; omega))) ?_
    | refine c_pickY rfl (by first | rfl | assumption) (d_fieldAddrD rfl rfl rfl rfl (by first | rfl | (simp only [cellsD]; rfl))) ?_
    | refine c_pickY rfl (by first | rfl | assumption) (d_loadD rfl rfl (by first | rfl | (simp only [cellsD]; rfl))) ?_
    | refine c_pickD rfl (by assumption) (d_indexAddrD rfl rfl rfl (by first | omega | (dsimp only; omega)) (by assumption)) ?_
    | refine c_pickD rfl (by assumption) (d_assignD rfl rfl) ?_
    | refine c_pickD rfl (by assumption) (d_moveD rfl rfl) ?_
    | refine c_pickD rfl (by assumption) (d_bin2B rfl rfl rfl rfl) ?_
    | refine c_pickD rfl (by assumption) (d_pickT rfl rfl (by first | rfl | assumption) rfl) ?_
    | refine c_pickD rfl (by assumption) (d_pickF rfl rfl (by first | rfl | assumption) rfl) ?_
    | refine c_pickD rfl (by assumption) (d_call rfl (by kernel_rfl) rfl (by first | exact c2)) ?_
    | refine c_pickD rfl (by assumption) (d_lenD rfl rfl) ?_
    | refine c_pickD rfl (by assumption) (d_not rfl rfl) ?_
    | refine c_pickD rfl (by assumption) (d_ariI rfl rfl rfl rfl (by first | omega | (dsimp only; omega))) ?_
    | refine c_pickD rfl (by assumption) (d_fieldAddrD rfl rfl rfl rfl (by first | rfl | (simp only [cellsD]; rfl))) ?_
    | refine c_pickD rfl (by assumption) (d_loadD rfl rfl (by first | rfl | (simp only [cellsD]; rfl))) ?_
    | refine c_splitT rfl rfl (fun h => ?_) (fun h => ?_)
    | refine c_splitF rfl rfl (fun h => ?_) (fun h => ?_)
    | fail)
      all_goals exact PLe.refl _
  · have g2 : decide ((j : Int) < ((da.length : Nat) : Int)) = false := decide_eq_false (by omega)
    rw [eqLx_all hl (fun i x y hx hy => hall i x y (by have := (List.getElem?_eq_some_iff.1 hx).1; omega) hx hy)]
    repeat' (first
    | refine run_seq ?_
    | (refine k_pick rfl ?_; first
      | refine k_indexAddrD rfl rfl rfl (by first | omega | (dsimp only; omega)) (by assumption) ?_
      | refine k_assignD rfl rfl ?_
      | refine k_moveD rfl rfl ?_
      | refine k_bin2B rfl rfl rfl rfl ?_
      | refine k_pickT rfl rfl (by first | rfl | assumption) rfl ?_
      | refine k_pickF rfl rfl (by first | rfl | assumption) rfl ?_
      | refine k_lenD rfl rfl ?_
      | refine k_not rfl rfl ?_
      | refine k_ariI rfl rfl rfl rfl (by first | omega | (dsimp only; omega)) ?_
      | refine k_fieldAddrD rfl rfl rfl rfl (by first | rfl | (simp only [cellsD]; rfl)) ?_
      | refine k_loadD rfl rfl (by first | rfl | (simp only [cellsD]; rfl)) ?_)
    | refine run_opsEnd ?_
    | refine run_region ?_
    | refine run_condT rfl (by first | rfl | assumption) ?_
    | refine run_condF rfl (by first | rfl | assumption) ?_
    | refine run_cond rfl (fun h => ?_) (fun h => ?_)
    | (refine k_guardY rfl rfl (by first | rfl | assumption) ?_; first
      | refine k_indexAddrD rfl rfl rfl (by first | omega | (dsimp only; omega)) (by assumption) ?_
      | refine k_assignD rfl rfl ?_
      | refine k_moveD rfl rfl ?_
      | refine k_bin2B rfl rfl rfl rfl ?_
      | refine k_pickT rfl rfl (by first | rfl | assumption) rfl ?_
      | refine k_pickF rfl rfl (by first | rfl | assumption) rfl ?_
      | refine k_lenD rfl rfl ?_
      | refine k_not rfl rfl ?_
      | refine k_ariI rfl rfl rfl rfl (by first | omega | (dsimp only; omega)) ?_
      | refine k_fieldAddrD rfl rfl rfl rfl (by first | rfl | (simp only [cellsD]; rfl)) ?_
      | refine k_loadD rfl rfl (by first | rfl | (simp only [cellsD]; rfl)) ?_)
    | refine k_guardU rfl rfl rfl ?_
    | refine k_guardNT rfl rfl (by first | rfl | assumption) rfl ?_
    | refine k_guardNF rfl rfl (by first | rfl | assumption) rfl ?_
    | refine k_guardT rfl rfl rfl (fun h => ?_) (fun h => ?_)
    | refine k_guardF rfl rfl rfl (fun h => ?_) (fun h => ?_)
    | refine run_block ?_
    | refine run_blkEnd ?_
    | refine run_skip ?_
    | refine run_exit rfl ?_
    | refine run_retOk (resOk_tmp rfl rfl ?_)
    | refine run_retOk (resOk_tmp2 rfl rfl rfl ?_ ?_)
    | refine run_retOk (resOk_cell rfl rfl rfl (by first | rfl | (simp only [cellsD]; rfl)) ?_)
    | refine run_retOk (resOk_cellTmp rfl rfl rfl (by first | rfl | (simp only [cellsD]; rfl)) rfl ?_ ?_)
    | (first
      | refine k_indexAddrD rfl rfl rfl (by first | omega | (dsimp only; omega)) (by assumption) ?_
      | refine k_assignD rfl rfl ?_
      | refine k_moveD rfl rfl ?_
      | refine k_bin2B rfl rfl rfl rfl ?_
      | refine k_pickT rfl rfl (by first | rfl | assumption) rfl ?_
      | refine k_pickF rfl rfl (by first | rfl | assumption) rfl ?_
      | refine k_lenD rfl rfl ?_
      | refine k_not rfl rfl ?_
      | refine k_ariI rfl rfl rfl rfl (by first | omega | (dsimp only; omega)) ?_
      | refine k_fieldAddrD rfl rfl rfl rfl (by first | rfl | (simp only [cellsD]; rfl)) ?_
      | refine k_loadD rfl rfl (by first | rfl | (simp only [cellsD]; rfl)) ?_)
    | refine run_drawC (by kernel_rfl) ?_
    | refine c_nil (And.intro (by kernel_rfl) ?_)
    | refine c_pick (d_indexAddrD rfl rfl rfl (by first | omega | (dsimp only; omega)) (by assumption)) ?_
    | refine c_pick (d_assignD rfl rfl) ?_
    | refine c_pick (d_moveD rfl rfl) ?_
    | refine c_pick (d_bin2B rfl rfl rfl rfl) ?_
    | refine c_pick (d_pickT rfl rfl (by first | rfl | assumption) rfl) ?_
    | refine c_pick (d_pickF rfl rfl (by first | rfl | assumption) rfl) ?_
    | refine c_pick (d_lenD rfl rfl) ?_
    | refine c_pick (d_not rfl rfl) ?_
    | refine c_pick (d_ariI rfl rfl rfl rfl (by first | omega | (dsimp only; omega))) ?_
    | refine c_pick (d_fieldAddrD rfl rfl rfl rfl (by first | rfl | (simp only [cellsD]; rfl))) ?_
    | refine c_pick (d_loadD rfl rfl (by first | rfl | (simp only [cellsD]; rfl))) ?_
    | refine c_passU rfl rfl ?_
    | refine c_passT rfl (by first | rfl | assumption) rfl ?_
    | refine c_passF rfl (by first | rfl | assumption) rfl ?_
    | refine c_pickY rfl (by first | rfl | assumption) (d_indexAddrD rfl rfl rfl (by first | omega | (dsimp only; omega)) (by assumption)) ?_
    | refine c_pickY rfl (by first | rfl | assumption) (d_assignD rfl rfl) ?_
    | refine c_pickY rfl (by first | rfl | assumption) (d_moveD rfl rfl) ?_
    | refine c_pickY rfl (by first | rfl | assumption) (d_bin2B rfl rfl rfl rfl) ?_
    | refine c_pickY rfl (by first | rfl | assumption) (d_pickT rfl rfl (by first | rfl | assumption) rfl) ?_
    | refine c_pickY rfl (by first | rfl | assumption) (d_pickF rfl rfl (by first | rfl | assumption) rfl) ?_
    | refine c_pickY rfl (by first | rfl | assumption) (d_lenD rfl rfl) ?_
    | refine c_pickY rfl (by first | rfl | assumption) (d_not rfl rfl) ?_
    | refine c_pickY rfl (by first | rfl | assumption) (d_ariI rfl rfl rfl rfl (by first | omega | (dsimp only; omega))) ?_
    | refine c_pickY rfl (by first | rfl | assumption) (d_fieldAddrD rfl rfl rfl rfl (by first | rfl | (simp only [cellsD]; rfl))) ?_
    | refine c_pickY rfl (by first | rfl | assumption) (d_loadD rfl rfl (by first | rfl | (simp only [cellsD]; rfl))) ?_
    | refine c_pickD rfl (by assumption) (d_indexAddrD rfl rfl rfl (by first | omega | (dsimp only; omega)) (by assumption)) ?_
    | refine c_pickD rfl (by assumption) (d_assignD rfl rfl) ?_
    | refine c_pickD rfl (by assumption) (d_moveD rfl rfl) ?_
    | refine c_pickD rfl (by assumption) (d_bin2B rfl rfl rfl rfl) ?_
    | refine c_pickD rfl (by assumption) (d_pickT rfl rfl (by first | rfl | assumption) rfl) ?_
    | refine c_pickD rfl (by assumption) (d_pickF rfl rfl (by first | rfl | assumption) rfl) ?_
    | refine c_pickD rfl (by assumption) (d_lenD rfl rfl) ?_
    | refine c_pickD rfl (by assumption) (d_not rfl rfl) ?_
    | refine c_pickD rfl (by assumption) (d_ariI rfl rfl rfl rfl (by first | omega | (dsimp only; omega))) ?_
    | refine c_pickD rfl (by assumption) (d_fieldAddrD rfl rfl rfl rfl (by first | rfl | (simp only [cellsD]; rfl))) ?_
    | refine c_pickD rfl (by assumption) (d_loadD rfl rfl (by first | rfl | (simp only [cellsD]; rfl))) ?_
    | refine c_splitT rfl rfl (fun h => ?_) (fun h => ?_)
    | refine c_splitF rfl rfl (fun h => ?_) (fun h => ?_)
    | fail)
    all_goals exact PLe.refl _
set_option maxHeartbeats 8000000 in
theorem peCompare_p (p q : PEV) : PCall Try.prog 70 [dvPE p, dvPE q] (.val (.int .i64 (cmpPE p q))) := by
  cases p with
  | name a =>
    cases q with
    | name b =>
      have c1 := strcmp_p a b
      have e : cmpPE (.name a) (.name b) = cmpS a b := rfl
      rw [e]
      unfold dvPE
      refine pcall_of_run Try.func70 rfl Try.ntmps70 rfl (fun X => ?_)
      repeat' (first
    | refine run_seq ?_
    | (refine k_pick rfl ?_; first
      | refine k_assignD rfl rfl ?_
      | refine k_moveD rfl rfl ?_
      | refine k_fieldAddrB rfl rfl rfl ?_
      | refine k_loadW rfl rfl rfl (by first | rfl | (simp only [cellsD]; rfl)) ?_
      | refine k_loadBD rfl rfl rfl (by first | rfl | (simp only [cellsD]; rfl)) ?_
      | refine k_bin2B rfl rfl rfl rfl ?_
      | refine k_boxW rfl rfl rfl (by first | rfl | (simp only [cellsD]; rfl)) ?_
      | refine k_call rfl (by kernel_rfl) rfl (by first | exact c1) ?_
      | refine k_cmpBool rfl rfl rfl (by kernel_rfl) rfl ?_
      | refine k_nilD rfl rfl ?_
      | refine k_cmpNil rfl rfl rfl (by kernel_rfl) (by first | exact NilIs.ptr | exact NilIs.none | exact NilIs.nilI | assumption) rfl ?_
      | refine k_not rfl rfl ?_
      | refine k_loadD rfl rfl (by first | rfl | (simp only [cellsD]; rfl)) ?_)
    | refine run_opsEnd ?_
    | refine run_region ?_
    | refine run_condT rfl (by first | rfl | assumption) ?_
    | refine run_condF rfl (by first | rfl | assumption) ?_
    | refine run_cond rfl (fun h => ?_) (fun h => ?_)
    | (refine k_guardY rfl rfl (by first | rfl | assumption) ?_; first
      | refine k_assignD rfl rfl ?_
      | refine k_moveD rfl rfl ?_
      | refine k_fieldAddrB rfl rfl rfl ?_
      | refine k_loadW rfl rfl rfl (by first | rfl | (simp only [cellsD]; rfl)) ?_
      | refine k_loadBD rfl rfl rfl (by first | rfl | (simp only [cellsD]; rfl)) ?_
      | refine k_bin2B rfl rfl rfl rfl ?_
      | refine k_boxW rfl rfl rfl (by first | rfl | (simp only [cellsD]; rfl)) ?_
      | refine k_call rfl (by kernel_rfl) rfl (by first | exact c1) ?_
      | refine k_cmpBool rfl rfl rfl (by kernel_rfl) rfl ?_
      | refine k_nilD rfl rfl ?_
      | refine k_cmpNil rfl rfl rfl (by kernel_rfl) (by first | exact NilIs.ptr | exact NilIs.none | exact NilIs.nilI | assumption) rfl ?_
      | refine k_not rfl rfl ?_
      | refine k_loadD rfl rfl (by first | rfl | (simp only [cellsD]; rfl)) ?_)
    | refine k_guardU rfl rfl rfl ?_
    | refine k_guardNT rfl rfl (by first | rfl | assumption) rfl ?_
    | refine k_guardNF rfl rfl (by first | rfl | assumption) rfl ?_
    | refine k_guardT rfl rfl rfl (fun h => ?_) (fun h => ?_)
    | refine k_guardF rfl rfl rfl (fun h => ?_) (fun h => ?_)
    | refine run_block ?_
    | refine run_blkEnd ?_
    | refine run_skip ?_
    | refine run_exit rfl ?_
    | refine run_retOk (resOk_tmp rfl rfl ?_)
    | refine run_retOk (resOk_tmp2 rfl rfl rfl ?_ ?_)
    | refine run_retOk (resOk_cell rfl rfl rfl (by first | rfl | (simp only [cellsD]; rfl)) ?_)
    | refine run_retOk (resOk_cellTmp rfl rfl rfl (by first | rfl | (simp only [cellsD]; rfl)) rfl ?_ ?_)
    | (first
      | refine k_assignD rfl rfl ?_
      | refine k_moveD rfl rfl ?_
      | refine k_fieldAddrB rfl rfl rfl ?_
      | refine k_loadW rfl rfl rfl (by first | rfl | (simp only [cellsD]; rfl)) ?_
      | refine k_loadBD rfl rfl rfl (by first | rfl | (simp only [cellsD]; rfl)) ?_
      | refine k_bin2B rfl rfl rfl rfl ?_
      | refine k_boxW rfl rfl rfl (by first | rfl | (simp only [cellsD]; rfl)) ?_
      | refine k_call rfl (by kernel_rfl) rfl (by first | exact c1) ?_
      | refine k_cmpBool rfl rfl rfl (by kernel_rfl) rfl ?_
      | refine k_nilD rfl rfl ?_
      | refine k_cmpNil rfl rfl rfl (by kernel_rfl) (by first | exact NilIs.ptr | exact NilIs.none | exact NilIs.nilI | assumption) rfl ?_
      | refine k_not rfl rfl ?_
      | refine k_loadD rfl rfl (by first | rfl | (simp only [cellsD]; rfl)) ?_)
    | refine run_drawC (by kernel_rfl) ?_
    | refine c_nil (And.intro (by kernel_rfl) ?_)
    | refine c_pick (d_assignD rfl rfl) ?_
    | refine c_pick (d_moveD rfl rfl) ?_
    | refine c_pick (d_fieldAddrB rfl rfl rfl) ?_
    | refine c_pick (d_loadW rfl rfl rfl (by first | rfl | (simp only [cellsD]; rfl))) ?_
    | refine c_pick (d_loadBD rfl rfl rfl (by first | rfl | (simp only [cellsD]; rfl))) ?_
    | refine c_pick (d_bin2B rfl rfl rfl rfl) ?_
    | refine c_pick (d_boxW rfl rfl rfl (by first | rfl | (simp only [cellsD]; rfl))) ?_
    | refine c_pick (d_call rfl (by kernel_rfl) rfl (by first | exact c1)) ?_
    | refine c_pick (d_cmpBool rfl rfl rfl (by kernel_rfl) rfl) ?_
    | refine c_pick (d_nilD rfl rfl) ?_
    | refine c_pick (d_cmpNil rfl rfl rfl (by kernel_rfl) (by first | exact NilIs.ptr | exact NilIs.none | exact NilIs.nilI | assumption) rfl) ?_
    | refine c_pick (d_not rfl rfl) ?_
    | refine c_pick (d_loadD rfl rfl (by first | rfl | (simp only [cellsD]; rfl))) ?_
    | refine c_passU rfl rfl ?_
    | refine c_passT rfl (by first | rfl | assumption) rfl ?_
    | refine c_passF rfl (by first | rfl | assumption) rfl ?_
    | refine c_pickY rfl (by first | rfl | assumption) (d_assignD rfl rfl) ?_
    | refine c_pickY rfl (by first | rfl | assumption) (d_moveD rfl rfl) ?_
    | refine c_pickY rfl (by first | rfl | assumption) (d_fieldAddrB rfl rfl rfl) ?_
    | refine c_pickY rfl (by first | rfl | assumption) (d_loadW rfl rfl rfl (by first | rfl | (simp only [cellsD]; rfl))) ?_
    | refine c_pickY rfl (by first | rfl | assumption) (d_loadBD rfl rfl rfl (by first | rfl | (simp only [cellsD]; rfl))) ?_
    | refine c_pickY rfl (by first | rfl | assumption) (d_bin2B rfl rfl rfl rfl) ?_
    | refine c_pickY rfl (by first | rfl | assumption) (d_boxW rfl rfl rfl (by first | rfl | (simp only [cellsD]; rfl))) ?_
    | refine c_pickY rfl (by first | rfl | assumption) (d_call rfl (by kernel_rfl) rfl (by first | exact c1)) ?_
    | refine c_pickY rfl (by first | rfl | assumption) (d_cmpBool rfl rfl rfl (by kernel_rfl) rfl) ?_
    | refine c_pickY rfl (by first | rfl | assumption) (d_nilD rfl rfl) ?_
    | refine c_pickY rfl (by first | rfl | assumption) (d_cmpNil rfl rfl rfl (by kernel_rfl) (by first | exact NilIs.ptr | exact NilIs.none | exact NilIs.nilI | assumption) rfl) ?_
    | refine c_pickY rfl (by first | rfl | assumption) (d_not rfl rfl) ?_
    | refine c_pickY rfl (by first | rfl | assumption) (d_loadD rfl rfl (by first | rfl | (simp only [cellsD]; rfl))) ?_
    | refine c_pickD rfl (by assumption) (d_assignD rfl rfl) ?_
    | refine c_pickD rfl (by assumption) (d_moveD rfl rfl) ?_
    | refine c_pickD rfl (by assumption) (d_fieldAddrB rfl rfl rfl) ?_
    | refine c_pickD rfl (by assumption) (d_loadW rfl rfl rfl (by first | rfl | (simp only [cellsD]; rfl))) ?_
    | refine c_pickD rfl (by assumption) (d_loadBD rfl rfl rfl (by first | rfl | (simp only [cellsD]; rfl))) ?_
    | refine c_pickD rfl (by assumption) (d_bin2B rfl rfl rfl rfl) ?_
    | refine c_pickD rfl (by assumption) (d_boxW rfl rfl rfl (by first | rfl | (simp only [cellsD]; rfl))) ?_
    | refine c_pickD rfl (by assumption) (d_call rfl (by kernel_rfl) rfl (by first | exact c1)) ?_
    | refine c_pickD rfl (by assumption) (d_cmpBool rfl rfl rfl (by kernel_rfl) rfl) ?_
    | refine c_pickD rfl (by assumption) (d_nilD rfl rfl) ?_
    | refine c_pickD rfl (by assumption) (d_cmpNil rfl rfl rfl (by kernel_rfl) (by first | exact NilIs.ptr | exact NilIs.none | exact NilIs.nilI | assumption) rfl) ?_
    | refine c_pickD rfl (by assumption) (d_not rfl rfl) ?_
    | refine c_pickD rfl (by assumption) (d_loadD rfl rfl (by first | rfl | (simp only [cellsD]; rfl))) ?_
    | refine c_splitT rfl rfl (fun h => ?_) (fun h => ?_)
    | refine c_splitF rfl rfl (fun h => ?_) (fun h => ?_)
    | fail)
      all_goals exact PLe.refl _
    | _ =>
      refine pcall_of_run Try.func70 rfl Try.ntmps70 rfl (fun X => ?_)
      unfold dvPE
      repeat' (first
    | refine run_seq ?_
    | (refine k_pick rfl ?_; first
      | refine k_assignD rfl rfl ?_
      | refine k_moveD rfl rfl ?_
      | refine k_fieldAddrB rfl rfl rfl ?_
      | refine k_loadW rfl rfl rfl (by first | rfl | (simp only [cellsD]; rfl)) ?_
      | refine k_loadBD rfl rfl rfl (by first | rfl | (simp only [cellsD]; rfl)) ?_
      | refine k_bin2B rfl rfl rfl rfl ?_
      | refine k_boxW rfl rfl rfl (by first | rfl | (simp only [cellsD]; rfl)) ?_
      | refine k_cmpBool rfl rfl rfl (by kernel_rfl) rfl ?_
      | refine k_nilD rfl rfl ?_
      | refine k_cmpNil rfl rfl rfl (by kernel_rfl) (by first | exact NilIs.ptr | exact NilIs.none | exact NilIs.nilI | assumption) rfl ?_
      | refine k_not rfl rfl ?_
      | refine k_loadD rfl rfl (by first | rfl | (simp only [cellsD]; rfl)) ?_)
    | refine run_opsEnd ?_
    | refine run_region ?_
    | refine run_condT rfl (by first | rfl | assumption) ?_
    | refine run_condF rfl (by first | rfl | assumption) ?_
    | refine run_cond rfl (fun h => ?_) (fun h => ?_)
    | (refine k_guardY rfl rfl (by first | rfl | assumption) ?_; first
      | refine k_assignD rfl rfl ?_
      | refine k_moveD rfl rfl ?_
      | refine k_fieldAddrB rfl rfl rfl ?_
      | refine k_loadW rfl rfl rfl (by first | rfl | (simp only [cellsD]; rfl)) ?_
      | refine k_loadBD rfl rfl rfl (by first | rfl | (simp only [cellsD]; rfl)) ?_
      | refine k_bin2B rfl rfl rfl rfl ?_
      | refine k_boxW rfl rfl rfl (by first | rfl | (simp only [cellsD]; rfl)) ?_
      | refine k_cmpBool rfl rfl rfl (by kernel_rfl) rfl ?_
      | refine k_nilD rfl rfl ?_
      | refine k_cmpNil rfl rfl rfl (by kernel_rfl) (by first | exact NilIs.ptr | exact NilIs.none | exact NilIs.nilI | assumption) rfl ?_
      | refine k_not rfl rfl ?_
      | refine k_loadD rfl rfl (by first | rfl | (simp only [cellsD]; rfl)) ?_)
    | refine k_guardU rfl rfl rfl ?_
    | refine k_guardNT rfl rfl (by first | rfl | assumption) rfl ?_
    | refine k_guardNF rfl rfl (by first | rfl | assumption) rfl ?_
    | refine k_guardT rfl rfl rfl (fun h => ?_) (fun h => ?_)
    | refine k_guardF rfl rfl rfl (fun h => ?_) (fun h => ?_)
    | refine run_block ?_
    | refine run_blkEnd ?_
    | refine run_skip ?_
    | refine run_exit rfl ?_
    | refine run_retOk (resOk_tmp rfl rfl ?_)
    | refine run_retOk (resOk_tmp2 rfl rfl rfl ?_ ?_)
    | refine run_retOk (resOk_cell rfl rfl rfl (by first | rfl | (simp only [cellsD]; rfl)) ?_)
    | refine run_retOk (resOk_cellTmp rfl rfl rfl (by first | rfl | (simp only [cellsD]; rfl)) rfl ?_ ?_)
    | (first
      | refine k_assignD rfl rfl ?_
      | refine k_moveD rfl rfl ?_
      | refine k_fieldAddrB rfl rfl rfl ?_
      | refine k_loadW rfl rfl rfl (by first | rfl | (simp only [cellsD]; rfl)) ?_
      | refine k_loadBD rfl rfl rfl (by first | rfl | (simp only [cellsD]; rfl)) ?_
      | refine k_bin2B rfl rfl rfl rfl ?_
      | refine k_boxW rfl rfl rfl (by first | rfl | (simp only [cellsD]; rfl)) ?_
      | refine k_cmpBool rfl rfl rfl (by kernel_rfl) rfl ?_
      | refine k_nilD rfl rfl ?_
      | refine k_cmpNil rfl rfl rfl (by kernel_rfl) (by first | exact NilIs.ptr | exact NilIs.none | exact NilIs.nilI | assumption) rfl ?_
      | refine k_not rfl rfl ?_
      | refine k_loadD rfl rfl (by first | rfl | (simp only [cellsD]; rfl)) ?_)
    | refine run_drawC (by kernel_rfl) ?_
    | refine c_nil (And.intro (by kernel_rfl) ?_)
    | refine c_pick (d_assignD rfl rfl) ?_
    | refine c_pick (d_moveD rfl rfl) ?_
    | refine c_pick (d_fieldAddrB rfl rfl rfl) ?_
    | refine c_pick (d_loadW rfl rfl rfl (by first | rfl | (simp only [cellsD]; rfl))) ?_
    | refine c_pick (d_loadBD rfl rfl rfl (by first | rfl | (simp only [cellsD]; rfl))) ?_
    | refine c_pick (d_bin2B rfl rfl rfl rfl) ?_
    | refine c_pick (d_boxW rfl rfl rfl (by first | rfl | (simp only [cellsD]; rfl))) ?_
    | refine c_pick (d_cmpBool rfl rfl rfl (by kernel_rfl) rfl) ?_
    | refine c_pick (d_nilD rfl rfl) ?_
    | refine c_pick (d_cmpNil rfl rfl rfl (by kernel_rfl) (by first | exact NilIs.ptr | exact NilIs.none | exact NilIs.nilI | assumption) rfl) ?_
    | refine c_pick (d_not rfl rfl) ?_
    | refine c_pick (d_loadD rfl rfl (by first | rfl | (simp only [cellsD]; rfl))) ?_
    | refine c_passU rfl rfl ?_
    | refine c_passT rfl (by first | rfl | assumption) rfl ?_
    | refine c_passF rfl (by first | rfl | assumption) rfl ?_
    | refine c_pickY rfl (by first | rfl | assumption) (d_assignD rfl rfl) ?_
    | refine c_pickY rfl (by first | rfl | assumption) (d_moveD rfl rfl) ?_
    | refine c_pickY rfl (by first | rfl | assumption) (d_fieldAddrB rfl rfl rfl) ?_
    | refine c_pickY rfl (by first | rfl | assumption) (d_loadW rfl rfl rfl (by first | rfl | (simp only [cellsD]; rfl))) ?_
    | refine c_pickY rfl (by first | rfl | assumption) (d_loadBD rfl rfl rfl (by first | rfl | (simp only [cellsD]; rfl))) ?_
    | refine c_pickY rfl (by first | rfl | assumption) (d_bin2B rfl rfl rfl rfl) ?_
    | refine c_pickY rfl (by first | rfl | assumption) (d_boxW rfl rfl rfl (by first | rfl | (simp only [cellsD]; rfl))) ?_
    | refine c_pickY rfl (by first | rfl | assumption) (d_cmpBool rfl rfl rfl (by kernel_rfl) rfl) ?_
    | refine c_pickY rfl (by first | rfl | assumption) (d_nilD rfl rfl) ?_
    | refine c_pickY rfl (by first | rfl | assumption) (d_cmpNil rfl rfl rfl (by kernel_rfl) (by first | exact NilIs.ptr | exact NilIs.none | exact NilIs.nilI | assumption) rfl) ?_
    | refine c_pickY rfl (by first | rfl | assumption) (d_not rfl rfl) ?_
    | refine c_pickY rfl (by first | rfl | assumption) (d_loadD rfl rfl (by first | rfl | (simp only [cellsD]; rfl))) ?_
    | refine c_pickD rfl (by assumption) (d_assignD rfl rfl) ?_
    | refine c_pickD rfl (by assumption) (d_moveD rfl rfl) ?_
    | refine c_pickD rfl (by assumption) (d_fieldAddrB rfl rfl rfl) ?_
    | refine c_pickD rfl (by assumption) (d_loadW rfl rfl rfl (by first | rfl | (simp only [cellsD]; rfl))) ?_
    | refine c_pickD rfl (by assumption) (d_loadBD rfl rfl rfl (by first | rfl | (simp only [cellsD]; rfl))) ?_
    | refine c_pickD rfl (by assumption) (d_bin2B rfl rfl rfl rfl) ?_
    | refine c_pickD rfl (by assumption) (d_boxW rfl rfl rfl (by first | rfl | (simp only [cellsD]; rfl))) ?_
    | refine c_pickD rfl (by assumption) (d_cmpBool rfl rfl rfl (by kernel_rfl) rfl) ?_
    | refine c_pickD rfl (by assumption) (d_nilD rfl rfl) ?_
    | refine c_pickD rfl (by assumption) (d_cmpNil rfl rfl rfl (by kernel_rfl) (by first | exact NilIs.ptr | exact NilIs.none | exact NilIs.nilI | assumption) rfl) ?_
    | refine c_pickD rfl (by assumption) (d_not rfl rfl) ?_
    | refine c_pickD rfl (by assumption) (d_loadD rfl rfl (by first | rfl | (simp only [cellsD]; rfl))) ?_
    | refine c_splitT rfl rfl (fun h => ?_) (fun h => ?_)
    | refine c_splitF rfl rfl (fun h => ?_) (fun h => ?_)
    | fail)
      all_goals exact PLe.refl _
  | key a =>
    cases q with
    | key b =>
      have c1 := flCompare_p a b
      have e : cmpPE (.key a) (.key b) = cmpLx cmpFd a b := rfl
      rw [e]
      unfold dvPE
      refine pcall_of_run Try.func70 rfl Try.ntmps70 rfl (fun X => ?_)
      repeat' (first
    | refine run_seq ?_
    | (refine k_pick rfl ?_; first
      | refine k_assignD rfl rfl ?_
      | refine k_moveD rfl rfl ?_
      | refine k_fieldAddrB rfl rfl rfl ?_
      | refine k_loadW rfl rfl rfl (by first | rfl | (simp only [cellsD]; rfl)) ?_
      | refine k_loadBD rfl rfl rfl (by first | rfl | (simp only [cellsD]; rfl)) ?_
      | refine k_bin2B rfl rfl rfl rfl ?_
      | refine k_boxW rfl rfl rfl (by first | rfl | (simp only [cellsD]; rfl)) ?_
      | refine k_call rfl (by kernel_rfl) rfl (by first | exact c1) ?_
      | refine k_cmpBool rfl rfl rfl (by kernel_rfl) rfl ?_
      | refine k_nilD rfl rfl ?_
      | refine k_cmpNil rfl rfl rfl (by kernel_rfl) (by first | exact NilIs.ptr | exact NilIs.none | exact NilIs.nilI | assumption) rfl ?_
      | refine k_not rfl rfl ?_
      | refine k_loadD rfl rfl (by first | rfl | (simp only [cellsD]; rfl)) ?_)
    | refine run_opsEnd ?_
    | refine run_region ?_
    | refine run_condT rfl (by first | rfl | assumption) ?_
    | refine run_condF rfl (by first | rfl | assumption) ?_
    | refine run_cond rfl (fun h => ?_) (fun h => ?_)
    | (refine k_guardY rfl rfl (by first | rfl | assumption) ?_; first
      | refine k_assignD rfl rfl ?_
      | refine k_moveD rfl rfl ?_
      | refine k_fieldAddrB rfl rfl rfl ?_
      | refine k_loadW rfl rfl rfl (by first | rfl | (simp only [cellsD]; rfl)) ?_
      | refine k_loadBD rfl rfl rfl (by first | rfl | (simp only [cellsD]; rfl)) ?_
      | refine k_bin2B rfl rfl rfl rfl ?_
      | refine k_boxW rfl rfl rfl (by first | rfl | (simp only [cellsD]; rfl)) ?_
      | refine k_call rfl (by kernel_rfl) rfl (by first | exact c1) ?_
      | refine k_cmpBool rfl rfl rfl (by kernel_rfl) rfl ?_
      | refine k_nilD rfl rfl ?_
      | refine k_cmpNil rfl rfl rfl (by kernel_rfl) (by first | exact NilIs.ptr | exact NilIs.none | exact NilIs.nilI | assumption) rfl ?_
      | refine k_not rfl rfl ?_
      | refine k_loadD rfl rfl (by first | rfl | (simp only [cellsD]; rfl)) ?_)
    | refine k_guardU rfl rfl rfl ?_
    | refine k_guardNT rfl rfl (by first | rfl | assumption) rfl ?_
    | refine k_guardNF rfl rfl (by first | rfl | assumption) rfl ?_
    | refine k_guardT rfl rfl rfl (fun h => ?_) (fun h => ?_)
    | refine k_guardF rfl rfl rfl (fun h => ?_) (fun h => ?_)
    | refine run_block ?_
    | refine run_blkEnd ?_
    | refine run_skip ?_
    | refine run_exit rfl ?_
    | refine run_retOk (resOk_tmp rfl rfl ?_)
    | refine run_retOk (resOk_tmp2 rfl rfl rfl ?_ ?_)
    | refine run_retOk (resOk_cell rfl rfl rfl (by first | rfl | (simp only [cellsD]; rfl)) ?_)
    | refine run_retOk (resOk_cellTmp rfl rfl rfl (by first | rfl | (simp only [cellsD]; rfl)) rfl ?_ ?_)
    | (first
      | refine k_assignD rfl rfl ?_
      | refine k_moveD rfl rfl ?_
      | refine k_fieldAddrB rfl rfl rfl ?_
      | refine k_loadW rfl rfl rfl (by first | rfl | (simp only [cellsD]; rfl)) ?_
      | refine k_loadBD rfl rfl rfl (by first | rfl | (simp only [cellsD]; rfl)) ?_
      | refine k_bin2B rfl rfl rfl rfl ?_
      | refine k_boxW rfl rfl rfl (by first | rfl | (simp only [cellsD]; rfl)) ?_
      | refine k_call rfl (by kernel_rfl) rfl (by first | exact c1) ?_
      | refine k_cmpBool rfl rfl rfl (by kernel_rfl) rfl ?_
      | refine k_nilD rfl rfl ?_
      | refine k_cmpNil rfl rfl rfl (by kernel_rfl) (by first | exact NilIs.ptr | exact NilIs.none | exact NilIs.nilI | assumption) rfl ?_
      | refine k_not rfl rfl ?_
      | refine k_loadD rfl rfl (by first | rfl | (simp only [cellsD]; rfl)) ?_)
    | refine run_drawC (by kernel_rfl) ?_
    | refine c_nil (And.intro (by kernel_rfl) ?_)
    | refine c_pick (d_assignD rfl rfl) ?_
    | refine c_pick (d_moveD rfl rfl) ?_
    | refine c_pick (d_fieldAddrB rfl rfl rfl) ?_
    | refine c_pick (d_loadW rfl rfl rfl (by first | rfl | (simp only [cellsD]; rfl))) ?_
    | refine c_pick (d_loadBD rfl rfl rfl (by first | rfl | (simp only [cellsD]; rfl))) ?_
    | refine c_pick (d_bin2B rfl rfl rfl rfl) ?_
    | refine c_pick (d_boxW rfl rfl rfl (by first | rfl | (simp only [cellsD]; rfl))) ?_
    | refine c_pick (d_call rfl (by kernel_rfl) rfl (by first | exact c1)) ?_
    | refine c_pick (d_cmpBool rfl rfl rfl (by kernel_rfl) rfl) ?_
    | refine c_pick (d_nilD rfl rfl) ?_
    | refine c_pick (d_cmpNil rfl rfl rfl (by kernel_rfl) (by first | exact NilIs.ptr | exact NilIs.none | exact NilIs.nilI | assumption) rfl) ?_
    | refine c_pick (d_not rfl rfl) ?_
    | refine c_pick (d_loadD rfl rfl (by first | rfl | (simp only [cellsD]; rfl))) ?_
    | refine c_passU rfl rfl ?_
    | refine c_passT rfl (by first | rfl | assumption) rfl ?_
    | refine c_passF rfl (by first | rfl | assumption) rfl ?_
    | refine c_pickY rfl (by first | rfl | assumption) (d_assignD rfl rfl) ?_
    | refine c_pickY rfl (by first | rfl | assumption) (d_moveD rfl rfl) ?_
    | refine c_pickY rfl (by first | rfl | assumption) (d_fieldAddrB rfl rfl rfl) ?_
    | refine c_pickY rfl (by first | rfl | assumption) (d_loadW rfl rfl rfl (by first | rfl | (simp only [cellsD]; rfl))) ?_
    | refine c_pickY rfl (by first | rfl | assumption) (d_loadBD rfl rfl rfl (by first | rfl | (simp only [cellsD]; rfl))) ?_
    | refine c_pickY rfl (by first | rfl | assumption) (d_bin2B rfl rfl rfl rfl) ?_
    | refine c_pickY rfl (by first | rfl | assumption) (d_boxW rfl rfl rfl (by first | rfl | (simp only [cellsD]; rfl))) ?_
    | refine c_pickY rfl (by first | rfl | assumption) (d_call rfl (by kernel_rfl) rfl (by first | exact c1)) ?_
    | refine c_pickY rfl (by first | rfl | assumption) (d_cmpBool rfl rfl rfl (by kernel_rfl) rfl) ?_
    | refine c_pickY rfl (by first | rfl | assumption) (d_nilD rfl rfl) ?_
    | refine c_pickY rfl (by first | rfl | assumption) (d_cmpNil rfl rfl rfl (by kernel_rfl) (by first | exact NilIs.ptr | exact NilIs.none | exact NilIs.nilI | assumption) rfl) ?_
    | refine c_pickY rfl (by first | rfl | assumption) (d_not rfl rfl) ?_
    | refine c_pickY rfl (by first | rfl | assumption) (d_loadD rfl rfl (by first | rfl | (simp only [cellsD]; rfl))) ?_
    | refine c_pickD rfl (by assumption) (d_assignD rfl rfl) ?_
    | refine c_pickD rfl (by assumption) (d_moveD rfl rfl) ?_
    | refine c_pickD rfl (by assumption) (d_fieldAddrB rfl rfl rfl) ?_
    | refine c_pickD rfl (by assumption) (d_loadW rfl rfl rfl (by first | rfl | (simp only [cellsD]; rfl))) ?_
    | refine c_pickD rfl (by assumption) (d_loadBD rfl rfl rfl (by first | rfl | (simp only [cellsD]; rfl))) ?_
    | refine c_pickD rfl (by assumption) (d_bin2B rfl rfl rfl rfl) ?_
    | refine c_pickD rfl (by assumption) (d_boxW rfl rfl rfl (by first | rfl | (simp only [cellsD]; rfl))) ?_
    | refine c_pickD rfl (by assumption) (d_call rfl (by kernel_rfl) rfl (by first | exact c1)) ?_
    | refine c_pickD rfl (by assumption) (d_cmpBool rfl rfl rfl (by kernel_rfl) rfl) ?_
    | refine c_pickD rfl (by assumption) (d_nilD rfl rfl) ?_
    | refine c_pickD rfl (by assumption) (d_cmpNil rfl rfl rfl (by kernel_rfl) (by first | exact NilIs.ptr | exact NilIs.none | exact NilIs.nilI | assumption) rfl) ?_
    | refine c_pickD rfl (by assumption) (d_not rfl rfl) ?_
    | refine c_pickD rfl (by assumption) (d_loadD rfl rfl (by first | rfl | (simp only [cellsD]; rfl))) ?_
    | refine c_splitT rfl rfl (fun h => ?_) (fun h => ?_)
    | refine c_splitF rfl rfl (fun h => ?_) (fun h => ?_)
    | fail)
      all_goals exact PLe.refl _
    | _ =>
      refine pcall_of_run Try.func70 rfl Try.ntmps70 rfl (fun X => ?_)
      unfold dvPE
      repeat' (first
    | refine run_seq ?_
    | (refine k_pick rfl ?_; first
      | refine k_assignD rfl rfl ?_
      | refine k_moveD rfl rfl ?_
      | refine k_fieldAddrB rfl rfl rfl ?_
      | refine k_loadW rfl rfl rfl (by first | rfl | (simp only [cellsD]; rfl)) ?_
      | refine k_loadBD rfl rfl rfl (by first | rfl | (simp only [cellsD]; rfl)) ?_
      | refine k_bin2B rfl rfl rfl rfl ?_
      | refine k_boxW rfl rfl rfl (by first | rfl | (simp only [cellsD]; rfl)) ?_
      | refine k_cmpBool rfl rfl rfl (by kernel_rfl) rfl ?_
      | refine k_nilD rfl rfl ?_
      | refine k_cmpNil rfl rfl rfl (by kernel_rfl) (by first | exact NilIs.ptr | exact NilIs.none | exact NilIs.nilI | assumption) rfl ?_
      | refine k_not rfl rfl ?_
      | refine k_loadD rfl rfl (by first | rfl | (simp only [cellsD]; rfl)) ?_)
    | refine run_opsEnd ?_
    | refine run_region ?_
    | refine run_condT rfl (by first | rfl | assumption) ?_
    | refine run_condF rfl (by first | rfl | assumption) ?_
    | refine run_cond rfl (fun h => ?_) (fun h => ?_)
    | (refine k_guardY rfl rfl (by first | rfl | assumption) ?_; first
      | refine k_assignD rfl rfl ?_
      | refine k_moveD rfl rfl ?_
      | refine k_fieldAddrB rfl rfl rfl ?_
      | refine k_loadW rfl rfl rfl (by first | rfl | (simp only [cellsD]; rfl)) ?_
      | refine k_loadBD rfl rfl rfl (by first | rfl | (simp only [cellsD]; rfl)) ?_
      | refine k_bin2B rfl rfl rfl rfl ?_
      | refine k_boxW rfl rfl rfl (by first | rfl | (simp only [cellsD]; rfl)) ?_
      | refine k_cmpBool rfl rfl rfl (by kernel_rfl) rfl ?_
      | refine k_nilD rfl rfl ?_
      | refine k_cmpNil rfl rfl rfl (by kernel_rfl) (by first | exact NilIs.ptr | exact NilIs.none | exact NilIs.nilI | assumption) rfl ?_
      | refine k_not rfl rfl ?_
      | refine k_loadD rfl rfl (by first | rfl | (simp only [cellsD]; rfl)) ?_)
    | refine k_guardU rfl rfl rfl ?_
    | refine k_guardNT rfl rfl (by first | rfl | assumption) rfl ?_
    | refine k_guardNF rfl rfl (by first | rfl | assumption) rfl ?_
    | refine k_guardT rfl rfl rfl (fun h => ?_) (fun h => ?_)
    | refine k_guardF rfl rfl rfl (fun h => ?_) (fun h => ?_)
    | refine run_block ?_
    | refine run_blkEnd ?_
    | refine run_skip ?_
    | refine run_exit rfl ?_
    | refine run_retOk (resOk_tmp rfl rfl ?_)
    | refine run_retOk (resOk_tmp2 rfl rfl rfl ?_ ?_)
    | refine run_retOk (resOk_cell rfl rfl rfl (by first | rfl | (simp only [cellsD]; rfl)) ?_)
    | refine run_retOk (resOk_cellTmp rfl rfl rfl (by first | rfl | (simp only [cellsD]; rfl)) rfl ?_ ?_)
    | (first
      | refine k_assignD rfl rfl ?_
      | refine k_moveD rfl rfl ?_
      | refine k_fieldAddrB rfl rfl rfl ?_
      | refine k_loadW rfl rfl rfl (by first | rfl | (simp only [cellsD]; rfl)) ?_
      | refine k_loadBD rfl rfl rfl (by first | rfl | (simp only [cellsD]; rfl)) ?_
      | refine k_bin2B rfl rfl rfl rfl ?_
      | refine k_boxW rfl rfl rfl (by first | rfl | (simp only [cellsD]; rfl)) ?_
      | refine k_cmpBool rfl rfl rfl (by kernel_rfl) rfl ?_
      | refine k_nilD rfl rfl ?_
      | refine k_cmpNil rfl rfl rfl (by kernel_rfl) (by first | exact NilIs.ptr | exact NilIs.none | exact NilIs.nilI | assumption) rfl ?_
      | refine k_not rfl rfl ?_
      | refine k_loadD rfl rfl (by first | rfl | (simp only [cellsD]; rfl)) ?_)
    | refine run_drawC (by kernel_rfl) ?_
    | refine c_nil (And.intro (by kernel_rfl) ?_)
    | refine c_pick (d_assignD rfl rfl) ?_
    | refine c_pick (d_moveD rfl rfl) ?_
    | refine c_pick (d_fieldAddrB rfl rfl rfl) ?_
    | refine c_pick (d_loadW rfl rfl rfl (by first | rfl | (simp only [cellsD]; rfl))) ?_
    | refine c_pick (d_loadBD rfl rfl rfl (by first | rfl | (simp only [cellsD]; rfl))) ?_
    | refine c_pick (d_bin2B rfl rfl rfl rfl) ?_
    | refine c_pick (d_boxW rfl rfl rfl (by first | rfl | (simp only [cellsD]; rfl))) ?_
    | refine c_pick (d_cmpBool rfl rfl rfl (by kernel_rfl) rfl) ?_
    | refine c_pick (d_nilD rfl rfl) ?_
    | refine c_pick (d_cmpNil rfl rfl rfl (by kernel_rfl) (by first | exact NilIs.ptr | exact NilIs.none | exact NilIs.nilI | assumption) rfl) ?_
    | refine c_pick (d_not rfl rfl) ?_
    | refine c_pick (d_loadD rfl rfl (by first | rfl | (simp only [cellsD]; rfl))) ?_
    | refine c_passU rfl rfl ?_
    | refine c_passT rfl (by first | rfl | assumption) rfl ?_
    | refine c_passF rfl (by first | rfl | assumption) rfl ?_
    | refine c_pickY rfl (by first | rfl | assumption) (d_assignD rfl rfl) ?_
    | refine c_pickY rfl (by first | rfl | assumption) (d_moveD rfl rfl) ?_
    | refine c_pickY rfl (by first | rfl | assumption) (d_fieldAddrB rfl rfl rfl) ?_
    | refine c_pickY rfl (by first | rfl | assumption) (d_loadW rfl rfl rfl (by first | rfl | (simp only [cellsD]; rfl))) ?_
    | refine c_pickY rfl (by first | rfl | assumption) (d_loadBD rfl rfl rfl (by first | rfl | (simp only [cellsD]; rfl))) ?_
    | refine c_pickY rfl (by first | rfl | assumption) (d_bin2B rfl rfl rfl rfl) ?_
    | refine c_pickY rfl (by first | rfl | assumption) (d_boxW rfl rfl rfl (by first | rfl | (simp only [cellsD]; rfl))) ?_
    | refine c_pickY rfl (by first | rfl | assumption) (d_cmpBool rfl rfl rfl (by kernel_rfl) rfl) ?_
    | refine c_pickY rfl (by first | rfl | assumption) (d_nilD rfl rfl) ?_
    | refine c_pickY rfl (by first | rfl | assumption) (d_cmpNil rfl rfl rfl (by kernel_rfl) (by first | exact NilIs.ptr | exact NilIs.none | exact NilIs.nilI | assumption) rfl) ?_
    | refine c_pickY rfl (by first | rfl | assumption) (d_not rfl rfl) ?_
    | refine c_pickY rfl (by first | rfl | assumption) (d_loadD rfl rfl (by first | rfl | (simp only [cellsD]; rfl))) ?_
    | refine c_pickD rfl (by assumption) (d_assignD rfl rfl) ?_
    | refine c_pickD rfl (by assumption) (d_moveD rfl rfl) ?_
    | refine c_pickD rfl (by assumption) (d_fieldAddrB rfl rfl rfl) ?_
    | refine c_pickD rfl (by assumption) (d_loadW rfl rfl rfl (by first | rfl | (simp only [cellsD]; rfl))) ?_
    | refine c_pickD rfl (by assumption) (d_loadBD rfl rfl rfl (by first | rfl | (simp only [cellsD]; rfl))) ?_
    | refine c_pickD rfl (by assumption) (d_bin2B rfl rfl rfl rfl) ?_
    | refine c_pickD rfl (by assumption) (d_boxW rfl rfl rfl (by first | rfl | (simp only [cellsD]; rfl))) ?_
    | refine c_pickD rfl (by assumption) (d_cmpBool rfl rfl rfl (by kernel_rfl) rfl) ?_
    | refine c_pickD rfl (by assumption) (d_nilD rfl rfl) ?_
    | refine c_pickD rfl (by assumption) (d_cmpNil rfl rfl rfl (by kernel_rfl) (by first | exact NilIs.ptr | exact NilIs.none | exact NilIs.nilI | assumption) rfl) ?_
    | refine c_pickD rfl (by assumption) (d_not rfl rfl) ?_
    | refine c_pickD rfl (by assumption) (d_loadD rfl rfl (by first | rfl | (simp only [cellsD]; rfl))) ?_
    | refine c_splitT rfl rfl (fun h => ?_) (fun h => ?_)
    | refine c_splitF rfl rfl (fun h => ?_) (fun h => ?_)
    | fail)
      all_goals exact PLe.refl _
  | val a =>
    cases q with
    | val b =>
      have c1 := compare_p a b
      have e : cmpPE (.val a) (.val b) = cmpJ a b := rfl
      rw [e]
      unfold dvPE
      refine pcall_of_run Try.func70 rfl Try.ntmps70 rfl (fun X => ?_)
      repeat' (first
    | refine run_seq ?_
    | (refine k_pick rfl ?_; first
      | refine k_assignD rfl rfl ?_
      | refine k_moveD rfl rfl ?_
      | refine k_fieldAddrB rfl rfl rfl ?_
      | refine k_loadW rfl rfl rfl (by first | rfl | (simp only [cellsD]; rfl)) ?_
      | refine k_loadBD rfl rfl rfl (by first | rfl | (simp only [cellsD]; rfl)) ?_
      | refine k_bin2B rfl rfl rfl rfl ?_
      | refine k_boxW rfl rfl rfl (by first | rfl | (simp only [cellsD]; rfl)) ?_
      | refine k_call rfl (by kernel_rfl) rfl (by first | exact c1) ?_
      | refine k_cmpBool rfl rfl rfl (by kernel_rfl) rfl ?_
      | refine k_nilD rfl rfl ?_
      | refine k_cmpNil rfl rfl rfl (by kernel_rfl) (by first | exact NilIs.ptr | exact NilIs.none | exact NilIs.nilI | assumption) rfl ?_
      | refine k_not rfl rfl ?_
      | refine k_loadD rfl rfl (by first | rfl | (simp only [cellsD]; rfl)) ?_)
    | refine run_opsEnd ?_
    | refine run_region ?_
    | refine run_condT rfl (by first | rfl | assumption) ?_
    | refine run_condF rfl (by first | rfl | assumption) ?_
    | refine run_cond rfl (fun h => ?_) (fun h => ?_)
    | (refine k_guardY rfl rfl (by first | rfl | assumption) ?_; first
      | refine k_assignD rfl rfl ?_
      | refine k_moveD rfl rfl ?_
      | refine k_fieldAddrB rfl rfl rfl ?_
      | refine k_loadW rfl rfl rfl (by first | rfl | (simp only [cellsD]; rfl)) ?_
      | refine k_loadBD rfl rfl rfl (by first | rfl | (simp only [cellsD]; rfl)) ?_
      | refine k_bin2B rfl rfl rfl rfl ?_
      | refine k_boxW rfl rfl rfl (by first | rfl | (simp only [cellsD]; rfl)) ?_
      | refine k_call rfl (by kernel_rfl) rfl (by first | exact c1) ?_
      | refine k_cmpBool rfl rfl rfl (by kernel_rfl) rfl ?_
      | refine k_nilD rfl rfl ?_
      | refine k_cmpNil rfl rfl rfl (by kernel_rfl) (by first | exact NilIs.ptr | exact NilIs.none | exact NilIs.nilI | assumption) rfl ?_
      | refine k_not rfl rfl ?_
      | refine k_loadD rfl rfl (by first | rfl | (simp only [cellsD]; rfl)) ?_)
    | refine k_guardU rfl rfl rfl ?_
    | refine k_guardNT rfl rfl (by first | rfl | assumption) rfl ?_
    | refine k_guardNF rfl rfl (by first | rfl | assumption) rfl ?_
    | refine k_guardT rfl rfl rfl (fun h => ?_) (fun h => ?_)
    | refine k_guardF rfl rfl rfl (fun h => ?_) (fun h => ?_)
    | refine run_block ?_
    | refine run_blkEnd ?_
    | refine run_skip ?_
    | refine run_exit rfl ?_
    | refine run_retOk (resOk_tmp rfl rfl ?_)
    | refine run_retOk (resOk_tmp2 rfl rfl rfl ?_ ?_)
    | refine run_retOk (resOk_cell rfl rfl rfl (by first | rfl | (simp only [cellsD]; rfl)) ?_)
    | refine run_retOk (resOk_cellTmp rfl rfl rfl (by first | rfl | (simp only [cellsD]; rfl)) rfl ?_ ?_)
    | (first
      | refine k_assignD rfl rfl ?_
      | refine k_moveD rfl rfl ?_
      | refine k_fieldAddrB rfl rfl rfl ?_
      | refine k_loadW rfl rfl rfl (by first | rfl | (simp only [cellsD]; rfl)) ?_
      | refine k_loadBD rfl rfl rfl (by first | rfl | (simp only [cellsD]; rfl)) ?_
      | refine k_bin2B rfl rfl rfl rfl ?_
      | refine k_boxW rfl rfl rfl (by first | rfl | (simp only [cellsD]; rfl)) ?_
      | refine k_call rfl (by kernel_rfl) rfl (by first | exact c1) ?_
      | refine k_cmpBool rfl rfl rfl (by kernel_rfl) rfl ?_
      | refine k_nilD rfl rfl ?_
      | refine k_cmpNil rfl rfl rfl (by kernel_rfl) (by first | exact NilIs.ptr | exact NilIs.none | exact NilIs.nilI | assumption) rfl ?_
      | refine k_not rfl rfl ?_
      | refine k_loadD rfl rfl (by first | rfl | (simp only [cellsD]; rfl)) ?_)
    | refine run_drawC (by kernel_rfl) ?_
    | refine c_nil (And.intro (by kernel_rfl) ?_)
    | refine c_pick (d_assignD rfl rfl) ?_
    | refine c_pick (d_moveD rfl rfl) ?_
    | refine c_pick (d_fieldAddrB rfl rfl rfl) ?_
    | refine c_pick (d_loadW rfl rfl rfl (by first | rfl | (simp only [cellsD]; rfl))) ?_
    | refine c_pick (d_loadBD rfl rfl rfl (by first | rfl | (simp only [cellsD]; rfl))) ?_
    | refine c_pick (d_bin2B rfl rfl rfl rfl) ?_
    | refine c_pick (d_boxW rfl rfl rfl (by first | rfl | (simp only [cellsD]; rfl))) ?_
    | refine c_pick (d_call rfl (by kernel_rfl) rfl (by first | exact c1)) ?_
    | refine c_pick (d_cmpBool rfl rfl rfl (by kernel_rfl) rfl) ?_
    | refine c_pick (d_nilD rfl rfl) ?_
    | refine c_pick (d_cmpNil rfl rfl rfl (by kernel_rfl) (by first | exact NilIs.ptr | exact NilIs.none | exact NilIs.nilI | assumption) rfl) ?_
    | refine c_pick (d_not rfl rfl) ?_
    | refine c_pick (d_loadD rfl rfl (by first | rfl | (simp only [cellsD]; rfl))) ?_
    | refine c_passU rfl rfl ?_
    | refine c_passT rfl (by first | rfl | assumption) rfl ?_
    | refine c_passF rfl (by first | rfl | assumption) rfl ?_
    | refine c_pickY rfl (by first | rfl | assumption) (d_assignD rfl rfl) ?_
    | refine c_pickY rfl (by first | rfl | assumption) (d_moveD rfl rfl) ?_
    | refine c_pickY rfl (by first | rfl | assumption) (d_fieldAddrB rfl rfl rfl) ?_
    | refine c_pickY rfl (by first | rfl | assumption) (d_loadW rfl rfl rfl (by first | rfl | (simp only [cellsD]; rfl))) ?_
    | refine c_pickY rfl (by first | rfl | assumption) (d_loadBD rfl rfl rfl (by first | rfl | (simp only [cellsD]; rfl))) ?_
    | refine c_pickY rfl (by first | rfl | assumption) (d_bin2B rfl rfl rfl rfl) ?_
    | refine c_pickY rfl (by first | rfl | assumption) (d_boxW rfl rfl rfl (by first | rfl | (simp only [cellsD]; rfl))) ?_
    | refine c_pickY rfl (by first | rfl | assumption) (d_call rfl (by kernel_rfl) rfl (by first | exact c1)) ?_
    | refine c_pickY rfl (by first | rfl | assumption) (d_cmpBool rfl rfl rfl (by kernel_rfl) rfl) ?_
    | refine c_pickY rfl (by first | rfl | assumption) (d_nilD rfl rfl) ?_
    | refine c_pickY rfl (by first | rfl | assumption) (d_cmpNil rfl rfl rfl (by kernel_rfl) (by first | exact NilIs.ptr | exact NilIs.none | exact NilIs.nilI | assumption) rfl) ?_
    | refine c_pickY rfl (by first | rfl | assumption) (d_not rfl rfl) ?_
    | refine c_pickY rfl (by first | rfl | assumption) (d_loadD rfl rfl (by first | rfl | (simp only [cellsD]; rfl))) ?_
    | refine c_pickD rfl (by assumption) (d_assignD rfl rfl) ?_
    | refine c_pickD rfl (by assumption) (d_moveD rfl rfl) ?_
    | refine c_pickD rfl (by assumption) (d_fieldAddrB rfl rfl rfl) ?_
    | refine c_pickD rfl (by assumption) (d_loadW rfl rfl rfl (by first | rfl | (simp only [cellsD]; rfl))) ?_
    | refine c_pickD rfl (by assumption) (d_loadBD rfl rfl rfl (by first | rfl | (simp only [cellsD]; rfl))) ?_
    | refine c_pickD rfl (by assumption) (d_bin2B rfl rfl rfl rfl) ?_
    | refine c_pickD rfl (by assumption) (d_boxW rfl rfl rfl (by first | rfl | (simp only [cellsD]; rfl))) ?_
    | refine c_pickD rfl (by assumption) (d_call rfl (by kernel_rfl) rfl (by first | exact c1)) ?_
    | refine c_pickD rfl (by assumption) (d_cmpBool rfl rfl rfl (by kernel_rfl) rfl) ?_
    | refine c_pickD rfl (by assumption) (d_nilD rfl rfl) ?_
    | refine c_pickD rfl (by assumption) (d_cmpNil rfl rfl rfl (by kernel_rfl) (by first | exact NilIs.ptr | exact NilIs.none | exact NilIs.nilI | assumption) rfl) ?_
    | refine c_pickD rfl (by assumption) (d_not rfl rfl) ?_
    | refine c_pickD rfl (by assumption) (d_loadD rfl rfl (by first | rfl | (simp only [cellsD]; rfl))) ?_
    | refine c_splitT rfl rfl (fun h => ?_) (fun h => ?_)
    | refine c_splitF rfl rfl (fun h => ?_) (fun h => ?_)
    | fail)
      all_goals exact PLe.refl _
    | _ =>
      refine pcall_of_run Try.func70 rfl Try.ntmps70 rfl (fun X => ?_)
      unfold dvPE
      repeat' (first
    | refine run_seq ?_
    | (refine k_pick rfl ?_; first
      | refine k_assignD rfl rfl ?_
      | refine k_moveD rfl rfl ?_
      | refine k_fieldAddrB rfl rfl rfl ?_
      | refine k_loadW rfl rfl rfl (by first | rfl | (simp only [cellsD]; rfl)) ?_
      | refine k_loadBD rfl rfl rfl (by first | rfl | (simp only [cellsD]; rfl)) ?_
      | refine k_bin2B rfl rfl rfl rfl ?_
      | refine k_boxW rfl rfl rfl (by first | rfl | (simp only [cellsD]; rfl)) ?_
      | refine k_cmpBool rfl rfl rfl (by kernel_rfl) rfl ?_
      | refine k_nilD rfl rfl ?_
      | refine k_cmpNil rfl rfl rfl (by kernel_rfl) (by first | exact NilIs.ptr | exact NilIs.none | exact NilIs.nilI | assumption) rfl ?_
      | refine k_not rfl rfl ?_
      | refine k_loadD rfl rfl (by first | rfl | (simp only [cellsD]; rfl)) ?_)
    | refine run_opsEnd ?_
    | refine run_region ?_
    | refine run_condT rfl (by first | rfl | assumption) ?_
    | refine run_condF rfl (by first | rfl | assumption) ?_
    | refine run_cond rfl (fun h => ?_) (fun h => ?_)
    | (refine k_guardY rfl rfl (by first | rfl | assumption) ?_; first
      | refine k_assignD rfl rfl ?_
      | refine k_moveD rfl rfl ?_
      | refine k_fieldAddrB rfl rfl rfl ?_
      | refine k_loadW rfl rfl rfl (by first | rfl | (simp only [cellsD]; rfl)) ?_
      | refine k_loadBD rfl rfl rfl (by first | rfl | (simp only [cellsD]; rfl)) ?_
      | refine k_bin2B rfl rfl rfl rfl ?_
      | refine k_boxW rfl rfl rfl (by first | rfl | (simp only [cellsD]; rfl)) ?_
      | refine k_cmpBool rfl rfl rfl (by kernel_rfl) rfl ?_
      | refine k_nilD rfl rfl ?_
      | refine k_cmpNil rfl rfl rfl (by kernel_rfl) (by first | exact NilIs.ptr | exact NilIs.none | exact NilIs.nilI | assumption) rfl ?_
      | refine k_not rfl rfl ?_
      | refine k_loadD rfl rfl (by first | rfl | (simp only [cellsD]; rfl)) ?_)
    | refine k_guardU rfl rfl rfl ?_
    | refine k_guardNT rfl rfl (by first | rfl | assumption) rfl ?_
    | refine k_guardNF rfl rfl (by first | rfl | assumption) rfl ?_
    | refine k_guardT rfl rfl rfl (fun h => ?_) (fun h => ?_)
    | refine k_guardF rfl rfl rfl (fun h => ?_) (fun h => ?_)
    | refine run_block ?_
    | refine run_blkEnd ?_
    | refine run_skip ?_
    | refine run_exit rfl ?_
    | refine run_retOk (resOk_tmp rfl rfl ?_)
    | refine run_retOk (resOk_tmp2 rfl rfl rfl ?_ ?_)
    | refine run_retOk (resOk_cell rfl rfl rfl (by first | rfl | (simp only [cellsD]; rfl)) ?_)
    | refine run_retOk (resOk_cellTmp rfl rfl rfl (by first | rfl | (simp only [cellsD]; rfl)) rfl ?_ ?_)
    | (first
      | refine k_assignD rfl rfl ?_
      | refine k_moveD rfl rfl ?_
      | refine k_fieldAddrB rfl rfl rfl ?_
      | refine k_loadW rfl rfl rfl (by first | rfl | (simp only [cellsD]; rfl)) ?_
      | refine k_loadBD rfl rfl rfl (by first | rfl | (simp only [cellsD]; rfl)) ?_
      | refine k_bin2B rfl rfl rfl rfl ?_
      | refine k_boxW rfl rfl rfl (by first | rfl | (simp only [cellsD]; rfl)) ?_
      | refine k_cmpBool rfl rfl rfl (by kernel_rfl) rfl ?_
      | refine k_nilD rfl rfl ?_
      | refine k_cmpNil rfl rfl rfl (by kernel_rfl) (by first | exact NilIs.ptr | exact NilIs.none | exact NilIs.nilI | assumption) rfl ?_
      | refine k_not rfl rfl ?_
      | refine k_loadD rfl rfl (by first | rfl | (simp only [cellsD]; rfl)) ?_)
    | refine run_drawC (by kernel_rfl) ?_
    | refine c_nil (And.intro (by kernel_rfl) ?_)
    | refine c_pick (d_assignD rfl rfl) ?_
    | refine c_pick (d_moveD rfl rfl) ?_
    | refine c_pick (d_fieldAddrB rfl rfl rfl) ?_
    | refine c_pick (d_loadW rfl rfl rfl (by first | rfl | (simp only [cellsD]; rfl))) ?_
    | refine c_pick (d_loadBD rfl rfl rfl (by first | rfl | (simp only [cellsD]; rfl))) ?_
    | refine c_pick (d_bin2B rfl rfl rfl rfl) ?_
    | refine c_pick (d_boxW rfl rfl rfl (by first | rfl | (simp only [cellsD]; rfl))) ?_
    | refine c_pick (d_cmpBool rfl rfl rfl (by kernel_rfl) rfl) ?_
    | refine c_pick (d_nilD rfl rfl) ?_
    | refine c_pick (d_cmpNil rfl rfl rfl (by kernel_rfl) (by first | exact NilIs.ptr | exact NilIs.none | exact NilIs.nilI | assumption) rfl) ?_
    | refine c_pick (d_not rfl rfl) ?_
    | refine c_pick (d_loadD rfl rfl (by first | rfl | (simp only [cellsD]; rfl))) ?_
    | refine c_passU rfl rfl ?_
    | refine c_passT rfl (by first | rfl | assumption) rfl ?_
    | refine c_passF rfl (by first | rfl | assumption) rfl ?_
    | refine c_pickY rfl (by first | rfl | assumption) (d_assignD rfl rfl) ?_
    | refine c_pickY rfl (by first | rfl | assumption) (d_moveD rfl rfl) ?_
    | refine c_pickY rfl (by first | rfl | assumption) (d_fieldAddrB rfl rfl rfl) ?_
    | refine c_pickY rfl (by first | rfl | assumption) (d_loadW rfl rfl rfl (by first | rfl | (simp only [cellsD]; rfl))) ?_
    | refine c_pickY rfl (by first | rfl | assumption) (d_loadBD rfl rfl rfl (by first | rfl | (simp only [cellsD]; rfl))) ?_
    | refine c_pickY rfl (by first | rfl | assumption) (d_bin2B rfl rfl rfl rfl) ?_
    | refine c_pickY rfl (by first | rfl | assumption) (d_boxW rfl rfl rfl (by first | rfl | (simp only [cellsD]; rfl))) ?_
    | refine c_pickY rfl (by first | rfl | assumption) (d_cmpBool rfl rfl rfl (by kernel_rfl) rfl) ?_
    | refine c_pickY rfl (by first | rfl | assumption) (d_nilD rfl rfl) ?_
    | refine c_pickY rfl (by first | rfl | assumption) (d_cmpNil rfl rfl rfl (by kernel_rfl) (by first | exact NilIs.ptr | exact NilIs.none | exact NilIs.nilI | assumption) rfl) ?_
    | refine c_pickY rfl (by first | rfl | assumption) (d_not rfl rfl) ?_
    | refine c_pickY rfl (by first | rfl | assumption) (d_loadD rfl rfl (by first | rfl | (simp only [cellsD]; rfl))) ?_
    | refine c_pickD rfl (by assumption) (d_assignD rfl rfl) ?_
    | refine c_pickD rfl (by assumption) (d_moveD rfl rfl) ?_
    | refine c_pickD rfl (by assumption) (d_fieldAddrB rfl rfl rfl) ?_
    | refine c_pickD rfl (by assumption) (d_loadW rfl rfl rfl (by first | rfl | (simp only [cellsD]; rfl))) ?_
    | refine c_pickD rfl (by assumption) (d_loadBD rfl rfl rfl (by first | rfl | (simp only [cellsD]; rfl))) ?_
    | refine c_pickD rfl (by assumption) (d_bin2B rfl rfl rfl rfl) ?_
    | refine c_pickD rfl (by assumption) (d_boxW rfl rfl rfl (by first | rfl | (simp only [cellsD]; rfl))) ?_
    | refine c_pickD rfl (by assumption) (d_cmpBool rfl rfl rfl (by kernel_rfl) rfl) ?_
    | refine c_pickD rfl (by assumption) (d_nilD rfl rfl) ?_
    | refine c_pickD rfl (by assumption) (d_cmpNil rfl rfl rfl (by kernel_rfl) (by first | exact NilIs.ptr | exact NilIs.none | exact NilIs.nilI | assumption) rfl) ?_
    | refine c_pickD rfl (by assumption) (d_not rfl rfl) ?_
    | refine c_pickD rfl (by assumption) (d_loadD rfl rfl (by first | rfl | (simp only [cellsD]; rfl))) ?_
    | refine c_splitT rfl rfl (fun h => ?_) (fun h => ?_)
    | refine c_splitF rfl rfl (fun h => ?_) (fun h => ?_)
    | fail)
      all_goals exact PLe.refl _
  | idx a =>
    cases q with
    | idx b =>
      have e : cmpPE (.idx a) (.idx b) = cmpI a b := rfl
      rw [e]
      unfold dvPE
      refine pcall_of_run Try.func70 rfl Try.ntmps70 rfl (fun X => ?_)
      by_cases h1 : a < b
      · have g1 : decide (a < b) = true := decide_eq_true h1
        rw [cmpI_lt h1]
        repeat' (first
    | refine run_seq ?_
    | (refine k_pick rfl ?_; first
      | refine k_assignD rfl rfl ?_
      | refine k_moveD rfl rfl ?_
      | refine k_fieldAddrB rfl rfl rfl ?_
      | refine k_loadW rfl rfl rfl (by first | rfl | (simp only [cellsD]; rfl)) ?_
      | refine k_loadBD rfl rfl rfl (by first | rfl | (simp only [cellsD]; rfl)) ?_
      | refine k_bin2B rfl rfl rfl rfl ?_
      | refine k_boxW rfl rfl rfl (by first | rfl | (simp only [cellsD]; rfl)) ?_
      | refine k_cmpBool rfl rfl rfl (by kernel_rfl) rfl ?_
      | refine k_nilD rfl rfl ?_
      | refine k_cmpNil rfl rfl rfl (by kernel_rfl) (by first | exact NilIs.ptr | exact NilIs.none | exact NilIs.nilI | assumption) rfl ?_
      | refine k_not rfl rfl ?_
      | refine k_loadD rfl rfl (by first | rfl | (simp only [cellsD]; rfl)) ?_)
    | refine run_opsEnd ?_
    | refine run_region ?_
    | refine run_condT rfl (by first | rfl | assumption) ?_
    | refine run_condF rfl (by first | rfl | assumption) ?_
    | refine run_cond rfl (fun h => ?_) (fun h => ?_)
    | (refine k_guardY rfl rfl (by first | rfl | assumption) ?_; first
      | refine k_assignD rfl rfl ?_
      | refine k_moveD rfl rfl ?_
      | refine k_fieldAddrB rfl rfl rfl ?_
      | refine k_loadW rfl rfl rfl (by first | rfl | (simp only [cellsD]; rfl)) ?_
      | refine k_loadBD rfl rfl rfl (by first | rfl | (simp only [cellsD]; rfl)) ?_
      | refine k_bin2B rfl rfl rfl rfl ?_
      | refine k_boxW rfl rfl rfl (by first | rfl | (simp only [cellsD]; rfl)) ?_
      | refine k_cmpBool rfl rfl rfl (by kernel_rfl) rfl ?_
      | refine k_nilD rfl rfl ?_
      | refine k_cmpNil rfl rfl rfl (by kernel_rfl) (by first | exact NilIs.ptr | exact NilIs.none | exact NilIs.nilI | assumption) rfl ?_
      | refine k_not rfl rfl ?_
      | refine k_loadD rfl rfl (by first | rfl | (simp only [cellsD]; rfl)) ?_)
    | refine k_guardU rfl rfl rfl ?_
    | refine k_guardNT rfl rfl (by first | rfl | assumption) rfl ?_
    | refine k_guardNF rfl rfl (by first | rfl | assumption) rfl ?_
    | refine k_guardT rfl rfl rfl (fun h => ?_) (fun h => ?_)
    | refine k_guardF rfl rfl rfl (fun h => ?_) (fun h => ?_)
    | refine run_block ?_
    | refine run_blkEnd ?_
    | refine run_skip ?_
    | refine run_exit rfl ?_
    | refine run_retOk (resOk_tmp rfl rfl ?_)
    | refine run_retOk (resOk_tmp2 rfl rfl rfl ?_ ?_)
    | refine run_retOk (resOk_cell rfl rfl rfl (by first | rfl | (simp only [cellsD]; rfl)) ?_)
    | refine run_retOk (resOk_cellTmp rfl rfl rfl (by first | rfl | (simp only [cellsD]; rfl)) rfl ?_ ?_)
    | (first
      | refine k_assignD rfl rfl ?_
      | refine k_moveD rfl rfl ?_
      | refine k_fieldAddrB rfl rfl rfl ?_
      | refine k_loadW rfl rfl rfl (by first | rfl | (simp only [cellsD]; rfl)) ?_
      | refine k_loadBD rfl rfl rfl (by first | rfl | (simp only [cellsD]; rfl)) ?_
      | refine k_bin2B rfl rfl rfl rfl ?_
      | refine k_boxW rfl rfl rfl (by first | rfl | (simp only [cellsD]; rfl)) ?_
      | refine k_cmpBool rfl rfl rfl (by kernel_rfl) rfl ?_
      | refine k_nilD rfl rfl ?_
      | refine k_cmpNil rfl rfl rfl (by kernel_rfl) (by first | exact NilIs.ptr | exact NilIs.none | exact NilIs.nilI | assumption) rfl ?_
      | refine k_not rfl rfl ?_
      | refine k_loadD rfl rfl (by first | rfl | (simp only [cellsD]; rfl)) ?_)
    | refine run_drawC (by kernel_rfl) ?_
    | refine c_nil (And.intro (by kernel_rfl) ?_)
    | refine c_pick (d_assignD rfl rfl) ?_
    | refine c_pick (d_moveD rfl rfl) ?_
    | refine c_pick (d_fieldAddrB rfl rfl rfl) ?_
    | refine c_pick (d_loadW rfl rfl rfl (by first | rfl | (simp only [cellsD]; rfl))) ?_
    | refine c_pick (d_loadBD rfl rfl rfl (by first | rfl | (simp only [cellsD]; rfl))) ?_
    | refine c_pick (d_bin2B rfl rfl rfl rfl) ?_
    | refine c_pick (d_boxW rfl rfl rfl (by first | rfl | (simp only [cellsD]; rfl))) ?_
    | refine c_pick (d_cmpBool rfl rfl rfl (by kernel_rfl) rfl) ?_
    | refine c_pick (d_nilD rfl rfl) ?_
    | refine c_pick (d_cmpNil rfl rfl rfl (by kernel_rfl) (by first | exact NilIs.ptr | exact NilIs.none | exact NilIs.nilI | assumption) rfl) ?_
    | refine c_pick (d_not rfl rfl) ?_
    | refine c_pick (d_loadD rfl rfl (by first | rfl | (simp only [cellsD]; rfl))) ?_
    | refine c_passU rfl rfl ?_
    | refine c_passT rfl (by first | rfl | assumption) rfl ?_
    | refine c_passF rfl (by first | rfl | assumption) rfl ?_
    | refine c_pickY rfl (by first | rfl | assumption) (d_assignD rfl rfl) ?_
    | refine c_pickY rfl (by first | rfl | assumption) (d_moveD rfl rfl) ?_
    | refine c_pickY rfl (by first | rfl | assumption) (d_fieldAddrB rfl rfl rfl) ?_
    | refine c_pickY rfl (by first | rfl | assumption) (d_loadW rfl rfl rfl (by first | rfl | (simp only [cellsD]; rfl))) ?_
    | refine c_pickY rfl (by first | rfl | assumption) (d_loadBD rfl rfl rfl (by first | rfl | (simp only [cellsD]; rfl))) ?_
    | refine c_pickY rfl (by first | rfl | assumption) (d_bin2B rfl rfl rfl rfl) ?_
    | refine c_pickY rfl (by first | rfl | assumption) (d_boxW rfl rfl rfl (by first | rfl | (simp only [cellsD]; rfl))) ?_
    | refine c_pickY rfl (by first | rfl | assumption) (d_cmpBool rfl rfl rfl (by kernel_rfl) rfl) ?_
    | refine c_pickY rfl (by first | rfl | assumption) (d_nilD rfl rfl) ?_
    | refine c_pickY rfl (by first | rfl | assumption) (d_cmpNil rfl rfl rfl (by kernel_rfl) (by first | exact NilIs.ptr | exact NilIs.none | exact NilIs.nilI | assumption) rfl) ?_
    | refine c_pickY rfl (by first | rfl | assumption) (d_not rfl rfl) ?_
    | refine c_pickY rfl (by first | rfl | assumption) (d_loadD rfl rfl (by first | rfl | (simp only [cellsD]; rfl))) ?_
    | refine c_pickD rfl (by assumption) (d_assignD rfl rfl) ?_
    | refine c_pickD rfl (by assumption) (d_moveD rfl rfl) ?_
    | refine c_pickD rfl (by assumption) (d_fieldAddrB rfl rfl rfl) ?_
    | refine c_pickD rfl (by assumption) (d_loadW rfl rfl rfl (by first | rfl | (simp only [cellsD]; rfl))) ?_
    | refine c_pickD rfl (by assumption) (d_loadBD rfl rfl rfl (by first | rfl | (simp only [cellsD]; rfl))) ?_
    | refine c_pickD rfl (by assumption) (d_bin2B rfl rfl rfl rfl) ?_
    | refine c_pickD rfl (by assumption) (d_boxW rfl rfl rfl (by first | rfl | (simp only [cellsD]; rfl))) ?_
    | refine c_pickD rfl (by assumption) (d_cmpBool rfl rfl rfl (by kernel_rfl) rfl) ?_
    | refine c_pickD rfl (by assumption) (d_nilD rfl rfl) ?_
    | refine c_pickD rfl (by assumption) (d_cmpNil rfl rfl rfl (by kernel_rfl) (by first | exact NilIs.ptr | exact NilIs.none | exact NilIs.nilI | assumption) rfl) ?_
    | refine c_pickD rfl (by assumption) (d_not rfl rfl) ?_
    | refine c_pickD rfl (by assumption) (d_loadD rfl rfl (by first | rfl | (simp only [cellsD]; rfl))) ?_
    | refine c_splitT rfl rfl (fun h => ?_) (fun h => ?_)
    | refine c_splitF rfl rfl (fun h => ?_) (fun h => ?_)
    | fail)
        all_goals exact PLe.refl _
      · have g1 : decide (a < b) = false := decide_eq_false h1
        by_cases h2 : a = b
        · have g2 : decide (a = b) = true := decide_eq_true h2
          rw [cmpI_zero.2 h2]
          repeat' (first
    | refine run_seq ?_
    | (refine k_pick rfl ?_; first
      | refine k_assignD rfl rfl ?_
      | refine k_moveD rfl rfl ?_
      | refine k_fieldAddrB rfl rfl rfl ?_
      | refine k_loadW rfl rfl rfl (by first | rfl | (simp only [cellsD]; rfl)) ?_
      | refine k_loadBD rfl rfl rfl (by first | rfl | (simp only [cellsD]; rfl)) ?_
      | refine k_bin2B rfl rfl rfl rfl ?_
      | refine k_boxW rfl rfl rfl (by first | rfl | (simp only [cellsD]; rfl)) ?_
      | refine k_cmpBool rfl rfl rfl (by kernel_rfl) rfl ?_
      | refine k_nilD rfl rfl ?_
      | refine k_cmpNil rfl rfl rfl (by kernel_rfl) (by first | exact NilIs.ptr | exact NilIs.none | exact NilIs.nilI | assumption) rfl ?_
      | refine k_not rfl rfl ?_
      | refine k_loadD rfl rfl (by first | rfl | (simp only [cellsD]; rfl)) ?_)
    | refine run_opsEnd ?_
    | refine run_region ?_
    | refine run_condT rfl (by first | rfl | assumption) ?_
    | refine run_condF rfl (by first | rfl | assumption) ?_
    | refine run_cond rfl (fun h => ?_) (fun h => ?_)
    | (refine k_guardY rfl rfl (by first | rfl | assumption) ?_; first
      | refine k_assignD rfl rfl ?_
      | refine k_moveD rfl rfl ?_
      | refine k_fieldAddrB rfl rfl rfl ?_
      | refine k_loadW rfl rfl rfl (by first | rfl | (simp only [cellsD]; rfl)) ?_
      | refine k_loadBD rfl rfl rfl (by first | rfl | (simp only [cellsD]; rfl)) ?_
      | refine k_bin2B rfl rfl rfl rfl ?_
      | refine k_boxW rfl rfl rfl (by first | rfl | (simp only [cellsD]; rfl)) ?_
      | refine k_cmpBool rfl rfl rfl (by kernel_rfl) rfl ?_
      | refine k_nilD rfl rfl ?_
      | refine k_cmpNil rfl rfl rfl (by kernel_rfl) (by first | exact NilIs.ptr | exact NilIs.none | exact NilIs.nilI | assumption) rfl ?_
      | refine k_not rfl rfl ?_
      | refine k_loadD rfl rfl (by first | rfl | (simp only [cellsD]; rfl)) ?_)
    | refine k_guardU rfl rfl rfl ?_
    | refine k_guardNT rfl rfl (by first | rfl | assumption) rfl ?_
    | refine k_guardNF rfl rfl (by first | rfl | assumption) rfl ?_
    | refine k_guardT rfl rfl rfl (fun h => ?_) (fun h => ?_)
    | refine k_guardF rfl rfl rfl (fun h => ?_) (fun h => ?_)
    | refine run_block ?_
    | refine run_blkEnd ?_
    | refine run_skip ?_
    | refine run_exit rfl ?_
    | refine run_retOk (resOk_tmp rfl rfl ?_)
    | refine run_retOk (resOk_tmp2 rfl rfl rfl ?_ ?_)
    | refine run_retOk (resOk_cell rfl rfl rfl (by first | rfl | (simp only [cellsD]; rfl)) ?_)
    | refine run_retOk (resOk_cellTmp rfl rfl rfl (by first | rfl | (simp only [cellsD]; rfl)) rfl ?_ ?_)
    | (first
      | refine k_assignD rfl rfl ?_
      | refine k_moveD rfl rfl ?_
      | refine k_fieldAddrB rfl rfl rfl ?_
      | refine k_loadW rfl rfl rfl (by first | rfl | (simp only [cellsD]; rfl)) ?_
      | refine k_loadBD rfl rfl rfl (by first | rfl | (simp only [cellsD]; rfl)) ?_
      | refine k_bin2B rfl rfl rfl rfl ?_
      | refine k_boxW rfl rfl rfl (by first | rfl | (simp only [cellsD]; rfl)) ?_
      | refine k_cmpBool rfl rfl rfl (by kernel_rfl) rfl ?_
      | refine k_nilD rfl rfl ?_
      | refine k_cmpNil rfl rfl rfl (by kernel_rfl) (by first | exact NilIs.ptr | exact NilIs.none | exact NilIs.nilI | assumption) rfl ?_
      | refine k_not rfl rfl ?_
      | refine k_loadD rfl rfl (by first | rfl | (simp only [cellsD]; rfl)) ?_)
    | refine run_drawC (by kernel_rfl) ?_
    | refine c_nil (And.intro (by kernel_rfl) ?_)
    | refine c_pick (d_assignD rfl rfl) ?_
    | refine c_pick (d_moveD rfl rfl) ?_
    | refine c_pick (d_fieldAddrB rfl rfl rfl) ?_
    | refine c_pick (d_loadW rfl rfl rfl (by first | rfl | (simp only [cellsD]; rfl))) ?_
    | refine c_pick (d_loadBD rfl rfl rfl (by first | rfl | (simp only [cellsD]; rfl))) ?_
    | refine c_pick (d_bin2B rfl rfl rfl rfl) ?_
    | refine c_pick (d_boxW rfl rfl rfl (by first | rfl | (simp only [cellsD]; rfl))) ?_
    | refine c_pick (d_cmpBool rfl rfl rfl (by kernel_rfl) rfl) ?_
    | refine c_pick (d_nilD rfl rfl) ?_
    | refine c_pick (d_cmpNil rfl rfl rfl (by kernel_rfl) (by first | exact NilIs.ptr | exact NilIs.none | exact NilIs.nilI | assumption) rfl) ?_
    | refine c_pick (d_not rfl rfl) ?_
    | refine c_pick (d_loadD rfl rfl (by first | rfl | (simp only [cellsD]; rfl))) ?_
    | refine c_passU rfl rfl ?_
    | refine c_passT rfl (by first | rfl | assumption) rfl ?_
    | refine c_passF rfl (by first | rfl | assumption) rfl ?_
    | refine c_pickY rfl (by first | rfl | assumption) (d_assignD rfl rfl) ?_
    | refine c_pickY rfl (by first | rfl | assumption) (d_moveD rfl rfl) ?_
    | refine c_pickY rfl (by first | rfl | assumption) (d_fieldAddrB rfl rfl rfl) ?_
    | refine c_pickY rfl (by first | rfl | assumption) (d_loadW rfl rfl rfl (by first | rfl | (simp only [cellsD]; rfl))) ?_
    | refine c_pickY rfl (by first | rfl | assumption) (d_loadBD rfl rfl rfl (by first | rfl | (simp only [cellsD]; rfl))) ?_
    | refine c_pickY rfl (by first | rfl | assumption) (d_bin2B rfl rfl rfl rfl) ?_
    | refine c_pickY rfl (by first | rfl | assumption) (d_boxW rfl rfl rfl (by first | rfl | (simp only [cellsD]; rfl))) ?_
    | refine c_pickY rfl (by first | rfl | assumption) (d_cmpBool rfl rfl rfl (by kernel_rfl) rfl) ?_
    | refine c_pickY rfl (by first | rfl | assumption) (d_nilD rfl rfl) ?_
    | refine c_pickY rfl (by first | rfl | assumption) (d_cmpNil rfl rfl rfl (by kernel_rfl) (by first | exact NilIs.ptr | exact NilIs.none | exact NilIs.nilI | assumption) rfl) ?_
    | refine c_pickY rfl (by first | rfl | assumption) (d_not rfl rfl) ?_
    | refine c_pickY rfl (by first | rfl | assumption) (d_loadD rfl rfl (by first | rfl | (simp only [cellsD]; rfl))) ?_
    | refine c_pickD rfl (by assumption) (d_assignD rfl rfl) ?_
    | refine c_pickD rfl (by assumption) (d_moveD rfl rfl) ?_
    | refine c_pickD rfl (by assumption) (d_fieldAddrB rfl rfl rfl) ?_
    | refine c_pickD rfl (by assumption) (d_loadW rfl rfl rfl (by first | rfl | (simp only [cellsD]; rfl))) ?_
    | refine c_pickD rfl (by assumption) (d_loadBD rfl rfl rfl (by first | rfl | (simp only [cellsD]; rfl))) ?_
    | refine c_pickD rfl (by assumption) (d_bin2B rfl rfl rfl rfl) ?_
    | refine c_pickD rfl (by assumption) (d_boxW rfl rfl rfl (by first | rfl | (simp only [cellsD]; rfl))) ?_
    | refine c_pickD rfl (by assumption) (d_cmpBool rfl rfl rfl (by kernel_rfl) rfl) ?_
    | refine c_pickD rfl (by assumption) (d_nilD rfl rfl) ?_
    | refine c_pickD rfl (by assumption) (d_cmpNil rfl rfl rfl (by kernel_rfl) (by first | exact NilIs.ptr | exact NilIs.none | exact NilIs.nilI | assumption) rfl) ?_
    | refine c_pickD rfl (by assumption) (d_not rfl rfl) ?_
    | refine c_pickD rfl (by assumption) (d_loadD rfl rfl (by first | rfl | (simp only [cellsD]; rfl))) ?_
    | refine c_splitT rfl rfl (fun h => ?_) (fun h => ?_)
    | refine c_splitF rfl rfl (fun h => ?_) (fun h => ?_)
    | fail)
          all_goals exact PLe.refl _
        · have g2 : decide (a = b) = false := decide_eq_false h2
          rw [cmpI_gt (by omega)]
          repeat' (first
    | refine run_seq ?_
    | (refine k_pick rfl ?_; first
      | refine k_assignD rfl rfl ?_
      | refine k_moveD rfl rfl ?_
      | refine k_fieldAddrB rfl rfl rfl ?_
      | refine k_loadW rfl rfl rfl (by first | rfl | (simp only [cellsD]; rfl)) ?_
      | refine k_loadBD rfl rfl rfl (by first | rfl | (simp only [cellsD]; rfl)) ?_
      | refine k_bin2B rfl rfl rfl rfl ?_
      | refine k_boxW rfl rfl rfl (by first | rfl | (simp only [cellsD]; rfl)) ?_
      | refine k_cmpBool rfl rfl rfl (by kernel_rfl) rfl ?_
      | refine k_nilD rfl rfl ?_
      | refine k_cmpNil rfl rfl rfl (by kernel_rfl) (by first | exact NilIs.ptr | exact NilIs.none | exact NilIs.nilI | assumption) rfl ?_
      | refine k_not rfl rfl ?_
      | refine k_loadD rfl rfl (by first | rfl | (simp only [cellsD]; rfl)) ?_)
    | refine run_opsEnd ?_
    | refine run_region ?_
    | refine run_condT rfl (by first | rfl | assumption) ?_
    | refine run_condF rfl (by first | rfl | assumption) ?_
    | refine run_cond rfl (fun h => ?_) (fun h => ?_)
    | (refine k_guardY rfl rfl (by first | rfl | assumption) ?_; first
      | refine k_assignD rfl rfl ?_
      | refine k_moveD rfl rfl ?_
      | refine k_fieldAddrB rfl rfl rfl ?_
      | refine k_loadW rfl rfl rfl (by first | rfl | (simp only [cellsD]; rfl)) ?_
      | refine k_loadBD rfl rfl rfl (by first | rfl | (simp only [cellsD]; rfl)) ?_
      | refine k_bin2B rfl rfl rfl rfl ?_
      | refine k_boxW rfl rfl rfl (by first | rfl | (simp only [cellsD]; rfl)) ?_
      | refine k_cmpBool rfl rfl rfl (by kernel_rfl) rfl ?_
      | refine k_nilD rfl rfl ?_
      | refine k_cmpNil rfl rfl rfl (by kernel_rfl) (by first | exact NilIs.ptr | exact NilIs.none | exact NilIs.nilI | assumption) rfl ?_
      | refine k_not rfl rfl ?_
      | refine k_loadD rfl rfl (by first | rfl | (simp only [cellsD]; rfl)) ?_)
    | refine k_guardU rfl rfl rfl ?_
    | refine k_guardNT rfl rfl (by first | rfl | assumption) rfl ?_
    | refine k_guardNF rfl rfl (by first | rfl | assumption) rfl ?_
    | refine k_guardT rfl rfl rfl (fun h => ?_) (fun h => ?_)
    | refine k_guardF rfl rfl rfl (fun h => ?_) (fun h => ?_)
    | refine run_block ?_
    | refine run_blkEnd ?_
    | refine run_skip ?_
    | refine run_exit rfl ?_
    | refine run_retOk (resOk_tmp rfl rfl ?_)
    | refine run_retOk (resOk_tmp2 rfl rfl rfl ?_ ?_)
    | refine run_retOk (resOk_cell rfl rfl rfl (by first | rfl | (simp only [cellsD]; rfl)) ?_)
    | refine run_retOk (resOk_cellTmp rfl rfl rfl (by first | rfl | (simp only [cellsD]; rfl)) rfl ?_ ?_)
    | (first
      | refine k_assignD rfl rfl ?_
      | refine k_moveD rfl rfl ?_
      | refine k_fieldAddrB rfl rfl rfl ?_
      | refine k_loadW rfl rfl rfl (by first | rfl | (simp only [cellsD]; rfl)) ?_
      | refine k_loadBD rfl rfl rfl (by first | rfl | (simp only [cellsD]; rfl)) ?_
      | refine k_bin2B rfl rfl rfl rfl ?_
      | refine k_boxW rfl rfl rfl (by first | rfl | (simp only [cellsD]; rfl)) ?_
      | refine k_cmpBool rfl rfl rfl (by kernel_rfl) rfl ?_
      | refine k_nilD rfl rfl ?_
      | refine k_cmpNil rfl rfl rfl (by kernel_rfl) (by first | exact NilIs.ptr | exact NilIs.none | exact NilIs.nilI | assumption) rfl ?_
      | refine k_not rfl rfl ?_
      | refine k_loadD rfl rfl (by first | rfl | (simp only [cellsD]; rfl)) ?_)
    | refine run_drawC (by kernel_rfl) ?_
    | refine c_nil (And.intro (by kernel_rfl) ?_)
    | refine c_pick (d_assignD rfl rfl) ?_
    | refine c_pick (d_moveD rfl rfl) ?_
    | refine c_pick (d_fieldAddrB rfl rfl rfl) ?_
    | refine c_pick (d_loadW rfl rfl rfl (by first | rfl | (simp only [cellsD]; rfl))) ?_
    | refine c_pick (d_loadBD rfl rfl rfl (by first | rfl | (simp only [cellsD]; rfl))) ?_
    | refine c_pick (d_bin2B rfl rfl rfl rfl) ?_
    | refine c_pick (d_boxW rfl rfl rfl (by first | rfl | (simp only [cellsD]; rfl))) ?_
    | refine c_pick (d_cmpBool rfl rfl rfl (by kernel_rfl) rfl) ?_
    | refine c_pick (d_nilD rfl rfl) ?_
    | refine c_pick (d_cmpNil rfl rfl rfl (by kernel_rfl) (by first | exact NilIs.ptr | exact NilIs.none | exact NilIs.nilI | assumption) rfl) ?_
    | refine c_pick (d_not rfl rfl) ?_
    | refine c_pick (d_loadD rfl rfl (by first | rfl | (simp only [cellsD]; rfl))) ?_
    | refine c_passU rfl rfl ?_
    | refine c_passT rfl (by first | rfl | assumption) rfl ?_
    | refine c_passF rfl (by first | rfl | assumption) rfl ?_
    | refine c_pickY rfl (by first | rfl | assumption) (d_assignD rfl rfl) ?_
    | refine c_pickY rfl (by first | rfl | assumption) (d_moveD rfl rfl) ?_
    | refine c_pickY rfl (by first | rfl | assumption) (d_fieldAddrB rfl rfl rfl) ?_
    | refine c_pickY rfl (by first | rfl | assumption) (d_loadW rfl rfl rfl (by first | rfl | (simp only [cellsD]; rfl))) ?_
    | refine c_pickY rfl (by first | rfl | assumption) (d_loadBD rfl rfl rfl (by first | rfl | (simp only [cellsD]; rfl))) ?_
    | refine c_pickY rfl (by first | rfl | assumption) (d_bin2B rfl rfl rfl rfl) ?_
    | refine c_pickY rfl (by first | rfl | assumption) (d_boxW rfl rfl rfl (by first | rfl | (simp only [cellsD]; rfl))) ?_
    | refine c_pickY rfl (by first | rfl | assumption) (d_cmpBool rfl rfl rfl (by kernel_rfl) rfl) ?_
    | refine c_pickY rfl (by first | rfl | assumption) (d_nilD rfl rfl) ?_
    | refine c_pickY rfl (by first | rfl | assumption) (d_cmpNil rfl rfl rfl (by kernel_rfl) (by first | exact NilIs.ptr | exact NilIs.none | exact NilIs.nilI | assumption) rfl) ?_
    | refine c_pickY rfl (by first | rfl | assumption) (d_not rfl rfl) ?_
    | refine c_pickY rfl (by first | rfl | assumption) (d_loadD rfl rfl (by first | rfl | (simp only [cellsD]; rfl))) ?_
    | refine c_pickD rfl (by assumption) (d_assignD rfl rfl) ?_
    | refine c_pickD rfl (by assumption) (d_moveD rfl rfl) ?_
    | refine c_pickD rfl (by assumption) (d_fieldAddrB rfl rfl rfl) ?_
    | refine c_pickD rfl (by assumption) (d_loadW rfl rfl rfl (by first | rfl | (simp only [cellsD]; rfl))) ?_
    | refine c_pickD rfl (by assumption) (d_loadBD rfl rfl rfl (by first | rfl | (simp only [cellsD]; rfl))) ?_
    | refine c_pickD rfl (by assumption) (d_bin2B rfl rfl rfl rfl) ?_
    | refine c_pickD rfl (by assumption) (d_boxW rfl rfl rfl (by first | rfl | (simp only [cellsD]; rfl))) ?_
    | refine c_pickD rfl (by assumption) (d_cmpBool rfl rfl rfl (by kernel_rfl) rfl) ?_
    | refine c_pickD rfl (by assumption) (d_nilD rfl rfl) ?_
    | refine c_pickD rfl (by assumption) (d_cmpNil rfl rfl rfl (by kernel_rfl) (by first | exact NilIs.ptr | exact NilIs.none | exact NilIs.nilI | assumption) rfl) ?_
    | refine c_pickD rfl (by assumption) (d_not rfl rfl) ?_
    | refine c_pickD rfl (by assumption) (d_loadD rfl rfl (by first | rfl | (simp only [cellsD]; rfl))) ?_
    | refine c_splitT rfl rfl (fun h => ?_) (fun h => ?_)
    | refine c_splitF rfl rfl (fun h => ?_) (fun h => ?_)
    | fail)
          all_goals exact PLe.refl _
    | _ =>
      refine pcall_of_run Try.func70 rfl Try.ntmps70 rfl (fun X => ?_)
      unfold dvPE
      repeat' (first
    | refine run_seq ?_
    | (refine k_pick rfl ?_; first
      | refine k_assignD rfl rfl ?_
      | refine k_moveD rfl rfl ?_
      | refine k_fieldAddrB rfl rfl rfl ?_
      | refine k_loadW rfl rfl rfl (by first | rfl | (simp only [cellsD]; rfl)) ?_
      | refine k_loadBD rfl rfl rfl (by first | rfl | (simp only [cellsD]; rfl)) ?_
      | refine k_bin2B rfl rfl rfl rfl ?_
      | refine k_boxW rfl rfl rfl (by first | rfl | (simp only [cellsD]; rfl)) ?_
      | refine k_cmpBool rfl rfl rfl (by kernel_rfl) rfl ?_
      | refine k_nilD rfl rfl ?_
      | refine k_cmpNil rfl rfl rfl (by kernel_rfl) (by first | exact NilIs.ptr | exact NilIs.none | exact NilIs.nilI | assumption) rfl ?_
      | refine k_not rfl rfl ?_
      | refine k_loadD rfl rfl (by first | rfl | (simp only [cellsD]; rfl)) ?_)
    | refine run_opsEnd ?_
    | refine run_region ?_
    | refine run_condT rfl (by first | rfl | assumption) ?_
    | refine run_condF rfl (by first | rfl | assumption) ?_
    | refine run_cond rfl (fun h => ?_) (fun h => ?_)
    | (refine k_guardY rfl rfl (by first | rfl | assumption) ?_; first
      | refine k_assignD rfl rfl ?_
      | refine k_moveD rfl rfl ?_
      | refine k_fieldAddrB rfl rfl rfl ?_
      | refine k_loadW rfl rfl rfl (by first | rfl | (simp only [cellsD]; rfl)) ?_
      | refine k_loadBD rfl rfl rfl (by first | rfl | (simp only [cellsD]; rfl)) ?_
      | refine k_bin2B rfl rfl rfl rfl ?_
      | refine k_boxW rfl rfl rfl (by first | rfl | (simp only [cellsD]; rfl)) ?_
      | refine k_cmpBool rfl rfl rfl (by kernel_rfl) rfl ?_
      | refine k_nilD rfl rfl ?_
      | refine k_cmpNil rfl rfl rfl (by kernel_rfl) (by first | exact NilIs.ptr | exact NilIs.none | exact NilIs.nilI | assumption) rfl ?_
      | refine k_not rfl rfl ?_
      | refine k_loadD rfl rfl (by first | rfl | (simp only [cellsD]; rfl)) ?_)
    | refine k_guardU rfl rfl rfl ?_
    | refine k_guardNT rfl rfl (by first | rfl | assumption) rfl ?_
    | refine k_guardNF rfl rfl (by first | rfl | assumption) rfl ?_
    | refine k_guardT rfl rfl rfl (fun h => ?_) (fun h => ?_)
    | refine k_guardF rfl rfl rfl (fun h => ?_) (fun h => ?_)
    | refine run_block ?_
    | refine run_blkEnd ?_
    | refine run_skip ?_
    | refine run_exit rfl ?_
    | refine run_retOk (resOk_tmp rfl rfl ?_)
    | refine run_retOk (resOk_tmp2 rfl rfl rfl ?_ ?_)
    | refine run_retOk (resOk_cell rfl rfl rfl (by first | rfl | (simp only [cellsD]; rfl)) ?_)
    | refine run_retOk (resOk_cellTmp rfl rfl rfl (by first | rfl | (simp only [cellsD]; rfl)) rfl ?_ ?_)
    | (first
      | refine k_assignD rfl rfl ?_
      | refine k_moveD rfl rfl ?_
      | refine k_fieldAddrB rfl rfl rfl ?_
      | refine k_loadW rfl rfl rfl (by first | rfl | (simp only [cellsD]; rfl)) ?_
      | refine k_loadBD rfl rfl rfl (by first | rfl | (simp only [cellsD]; rfl)) ?_
      | refine k_bin2B rfl rfl rfl rfl ?_
      | refine k_boxW rfl rfl rfl (by first | rfl | (simp only [cellsD]; rfl)) ?_
      | refine k_cmpBool rfl rfl rfl (by kernel_rfl) rfl ?_
      | refine k_nilD rfl rfl ?_
      | refine k_cmpNil rfl rfl rfl (by kernel_rfl) (by first | exact NilIs.ptr | exact NilIs.none | exact NilIs.nilI | assumption) rfl ?_
      | refine k_not rfl rfl ?_
      | refine k_loadD rfl rfl (by first | rfl | (simp only [cellsD]; rfl)) ?_)
    | refine run_drawC (by kernel_rfl) ?_
    | refine c_nil (And.intro (by kernel_rfl) ?_)
    | refine c_pick (d_assignD rfl rfl) ?_
    | refine c_pick (d_moveD rfl rfl) ?_
    | refine c_pick (d_fieldAddrB rfl rfl rfl) ?_
    | refine c_pick (d_loadW rfl rfl rfl (by first | rfl | (simp only [cellsD]; rfl))) ?_
    | refine c_pick (d_loadBD rfl rfl rfl (by first | rfl | (simp only [cellsD]; rfl))) ?_
    | refine c_pick (d_bin2B rfl rfl rfl rfl) ?_
    | refine c_pick (d_boxW rfl rfl rfl (by first | rfl | (simp only [cellsD]; rfl))) ?_
    | refine c_pick (d_cmpBool rfl rfl rfl (by kernel_rfl) rfl) ?_
    | refine c_pick (d_nilD rfl rfl) ?_
    | refine c_pick (d_cmpNil rfl rfl rfl (by kernel_rfl) (by first | exact NilIs.ptr | exact NilIs.none | exact NilIs.nilI | assumption) rfl) ?_
    | refine c_pick (d_not rfl rfl) ?_
    | refine c_pick (d_loadD rfl rfl (by first | rfl | (simp only [cellsD]; rfl))) ?_
    | refine c_passU rfl rfl ?_
    | refine c_passT rfl (by first | rfl | assumption) rfl ?_
    | refine c_passF rfl (by first | rfl | assumption) rfl ?_
    | refine c_pickY rfl (by first | rfl | assumption) (d_assignD rfl rfl) ?_
    | refine c_pickY rfl (by first | rfl | assumption) (d_moveD rfl rfl) ?_
    | refine c_pickY rfl (by first | rfl | assumption) (d_fieldAddrB rfl rfl rfl) ?_
    | refine c_pickY rfl (by first | rfl | assumption) (d_loadW rfl rfl rfl (by first | rfl | (simp only [cellsD]; rfl))) ?_
    | refine c_pickY rfl (by first | rfl | assumption) (d_loadBD rfl rfl rfl (by first | rfl | (simp only [cellsD]; rfl))) ?_
    | refine c_pickY rfl (by first | rfl | assumption) (d_bin2B rfl rfl rfl rfl) ?_
    | refine c_pickY rfl (by first | rfl | assumption) (d_boxW rfl rfl rfl (by first | rfl | (simp only [cellsD]; rfl))) ?_
    | refine c_pickY rfl (by first | rfl | assumption) (d_cmpBool rfl rfl rfl (by kernel_rfl) rfl) ?_
    | refine c_pickY rfl (by first | rfl | assumption) (d_nilD rfl rfl) ?_
    | refine c_pickY rfl (by first | rfl | assumption) (d_cmpNil rfl rfl rfl (by kernel_rfl) (by first | exact NilIs.ptr | exact NilIs.none | exact NilIs.nilI | assumption) rfl) ?_
    | refine c_pickY rfl (by first | rfl | assumption) (d_not rfl rfl) ?_
    | refine c_pickY rfl (by first | rfl | assumption) (d_loadD rfl rfl (by first | rfl | (simp only [cellsD]; rfl))) ?_
    | refine c_pickD rfl (by assumption) (d_assignD rfl rfl) ?_
    | refine c_pickD rfl (by assumption) (d_moveD rfl rfl) ?_
    | refine c_pickD rfl (by assumption) (d_fieldAddrB rfl rfl rfl) ?_
    | refine c_pickD rfl (by assumption) (d_loadW rfl rfl rfl (by first | rfl | (simp only [cellsD]; rfl))) ?_
    | refine c_pickD rfl (by assumption) (d_loadBD rfl rfl rfl (by first | rfl | (simp only [cellsD]; rfl))) ?_
    | refine c_pickD rfl (by assumption) (d_bin2B rfl rfl rfl rfl) ?_
    | refine c_pickD rfl (by assumption) (d_boxW rfl rfl rfl (by first | rfl | (simp only [cellsD]; rfl))) ?_
    | refine c_pickD rfl (by assumption) (d_cmpBool rfl rfl rfl (by kernel_rfl) rfl) ?_
    | refine c_pickD rfl (by assumption) (d_nilD rfl rfl) ?_
    | refine c_pickD rfl (by assumption) (d_cmpNil rfl rfl rfl (by kernel_rfl) (by first | exact NilIs.ptr | exact NilIs.none | exact NilIs.nilI | assumption) rfl) ?_
    | refine c_pickD rfl (by assumption) (d_not rfl rfl) ?_
    | refine c_pickD rfl (by assumption) (d_loadD rfl rfl (by first | rfl | (simp only [cellsD]; rfl))) ?_
    | refine c_splitT rfl rfl (fun h => ?_) (fun h => ?_)
    | refine c_splitF rfl rfl (fun h => ?_) (fun h => ?_)
    | fail)
      all_goals exact PLe.refl _
set_option maxHeartbeats 8000000 in
theorem peEquals_p (p q : PEV) : PCall Try.prog 72 [dvPE p, dvPE q] (.val (.bool (eqPE p q))) := by
  cases p with
  | name a =>
    cases q with
    | name b =>
      have e : eqPE (.name a) (.name b) = decide (a = b) := rfl
      rw [e]
      unfold dvPE
      refine pcall_of_run Try.func72 rfl Try.ntmps72 rfl (fun X => ?_)
      repeat' (first
    | refine run_seq ?_
    | (refine k_pick rfl ?_; first
      | refine k_assignD rfl rfl ?_
      | refine k_moveD rfl rfl ?_
      | refine k_fieldAddrB rfl rfl rfl ?_
      | refine k_loadW rfl rfl rfl (by first | rfl | (simp only [cellsD]; rfl)) ?_
      | refine k_loadBD rfl rfl rfl (by first | rfl | (simp only [cellsD]; rfl)) ?_
      | refine k_bin2B rfl rfl rfl rfl ?_
      | refine k_boxW rfl rfl rfl (by first | rfl | (simp only [cellsD]; rfl)) ?_
      | refine k_cmpBool rfl rfl rfl (by kernel_rfl) rfl ?_
      | refine k_nilD rfl rfl ?_
      | refine k_cmpNil rfl rfl rfl (by kernel_rfl) (by first | exact NilIs.ptr | exact NilIs.none | exact NilIs.nilI | assumption) rfl ?_
      | refine k_not rfl rfl ?_
      | refine k_loadD rfl rfl (by first | rfl | (simp only [cellsD]; rfl)) ?_)
    | refine run_opsEnd ?_
    | refine run_region ?_
    | refine run_condT rfl (by first | rfl | assumption) ?_
    | refine run_condF rfl (by first | rfl | assumption) ?_
    | refine run_cond rfl (fun h => ?_) (fun h => ?_)
    | (refine k_guardY rfl rfl (by first | rfl | assumption) ?_; first
      | refine k_assignD rfl rfl ?_
      | refine k_moveD rfl rfl ?_
      | refine k_fieldAddrB rfl rfl rfl ?_
      | refine k_loadW rfl rfl rfl (by first | rfl | (simp only [cellsD]; rfl)) ?_
      | refine k_loadBD rfl rfl rfl (by first | rfl | (simp only [cellsD]; rfl)) ?_
      | refine k_bin2B rfl rfl rfl rfl ?_
      | refine k_boxW rfl rfl rfl (by first | rfl | (simp only [cellsD]; rfl)) ?_
      | refine k_cmpBool rfl rfl rfl (by kernel_rfl) rfl ?_
      | refine k_nilD rfl rfl ?_
      | refine k_cmpNil rfl rfl rfl (by kernel_rfl) (by first | exact NilIs.ptr | exact NilIs.none | exact NilIs.nilI | assumption) rfl ?_
      | refine k_not rfl rfl ?_
      | refine k_loadD rfl rfl (by first | rfl | (simp only [cellsD]; rfl)) ?_)
    | refine k_guardU rfl rfl rfl ?_
    | refine k_guardNT rfl rfl (by first | rfl | assumption) rfl ?_
    | refine k_guardNF rfl rfl (by first | rfl | assumption) rfl ?_
    | refine k_guardT rfl rfl rfl (fun h => ?_) (fun h => ?_)
    | refine k_guardF rfl rfl rfl (fun h => ?_) (fun h => ?_)
    | refine run_block ?_
    | refine run_blkEnd ?_
    | refine run_skip ?_
    | refine run_exit rfl ?_
    | refine run_retOk (resOk_tmp rfl rfl ?_)
    | refine run_retOk (resOk_tmp2 rfl rfl rfl ?_ ?_)
    | refine run_retOk (resOk_cell rfl rfl rfl (by first | rfl | (simp only [cellsD]; rfl)) ?_)
    | refine run_retOk (resOk_cellTmp rfl rfl rfl (by first | rfl | (simp only [cellsD]; rfl)) rfl ?_ ?_)
    | (first
      | refine k_assignD rfl rfl ?_
      | refine k_moveD rfl rfl ?_
      | refine k_fieldAddrB rfl rfl rfl ?_
      | refine k_loadW rfl rfl rfl (by first | rfl | (simp only [cellsD]; rfl)) ?_
      | refine k_loadBD rfl rfl rfl (by first | rfl | (simp only [cellsD]; rfl)) ?_
      | refine k_bin2B rfl rfl rfl rfl ?_
      | refine k_boxW rfl rfl rfl (by first | rfl | (simp only [cellsD]; rfl)) ?_
      | refine k_cmpBool rfl rfl rfl (by kernel_rfl) rfl ?_
      | refine k_nilD rfl rfl ?_
      | refine k_cmpNil rfl rfl rfl (by kernel_rfl) (by first | exact NilIs.ptr | exact NilIs.none | exact NilIs.nilI | assumption) rfl ?_
      | refine k_not rfl rfl ?_
      | refine k_loadD rfl rfl (by first | rfl | (simp only [cellsD]; rfl)) ?_)
    | refine run_drawC (by kernel_rfl) ?_
    | refine c_nil (And.intro (by kernel_rfl) ?_)
    | refine c_pick (d_assignD rfl rfl) ?_
    | refine c_pick (d_moveD rfl rfl) ?_
    | refine c_pick (d_fieldAddrB rfl rfl rfl) ?_
    | refine c_pick (d_loadW rfl rfl rfl (by first | rfl | (simp only [cellsD]; rfl))) ?_
    | refine c_pick (d_loadBD rfl rfl rfl (by first | rfl | (simp only [cellsD]; rfl))) ?_
    | refine c_pick (d_bin2B rfl rfl rfl rfl) ?_
    | refine c_pick (d_boxW rfl rfl rfl (by first | rfl | (simp only [cellsD]; rfl))) ?_
    | refine c_pick (d_cmpBool rfl rfl rfl (by kernel_rfl) rfl) ?_
    | refine c_pick (d_nilD rfl rfl) ?_
    | refine c_pick (d_cmpNil rfl rfl rfl (by kernel_rfl) (by first | exact NilIs.ptr | exact NilIs.none | exact NilIs.nilI | assumption) rfl) ?_
    | refine c_pick (d_not rfl rfl) ?_
    | refine c_pick (d_loadD rfl rfl (by first | rfl | (simp only [cellsD]; rfl))) ?_
    | refine c_passU rfl rfl ?_
    | refine c_passT rfl (by first | rfl | assumption) rfl ?_
    | refine c_passF rfl (by first | rfl | assumption) rfl ?_
    | refine c_pickY rfl (by first | rfl | assumption) (d_assignD rfl rfl) ?_
    | refine c_pickY rfl (by first | rfl | assumption) (d_moveD rfl rfl) ?_
    | refine c_pickY rfl (by first | rfl | assumption) (d_fieldAddrB rfl rfl rfl) ?_
    | refine c_pickY rfl (by first | rfl | assumption) (d_loadW rfl rfl rfl (by first | rfl | (simp only [cellsD]; rfl))) ?_
    | refine c_pickY rfl (by first | rfl | assumption) (d_loadBD rfl rfl rfl (by first | rfl | (simp only [cellsD]; rfl))) ?_
    | refine c_pickY rfl (by first | rfl | assumption) (d_bin2B rfl rfl rfl rfl) ?_
    | refine c_pickY rfl (by first | rfl | assumption) (d_boxW rfl rfl rfl (by first | rfl | (simp only [cellsD]; rfl))) ?_
    | refine c_pickY rfl (by first | rfl | assumption) (d_cmpBool rfl rfl rfl (by kernel_rfl) rfl) ?_
    | refine c_pickY rfl (by first | rfl | assumption) (d_nilD rfl rfl) ?_
    | refine c_pickY rfl (by first | rfl | assumption) (d_cmpNil rfl rfl rfl (by kernel_rfl) (by first | exact NilIs.ptr | exact NilIs.none | exact NilIs.nilI | assumption) rfl) ?_
    | refine c_pickY rfl (by first | rfl | assumption) (d_not rfl rfl) ?_
    | refine c_pickY rfl (by first | rfl | assumption) (d_loadD rfl rfl (by first | rfl | (simp only [cellsD]; rfl))) ?_
    | refine c_pickD rfl (by assumption) (d_assignD rfl rfl) ?_
    | refine c_pickD rfl (by assumption) (d_moveD rfl rfl) ?_
    | refine c_pickD rfl (by assumption) (d_fieldAddrB rfl rfl rfl) ?_
    | refine c_pickD rfl (by assumption) (d_loadW rfl rfl rfl (by first | rfl | (simp only [cellsD]; rfl))) ?_
    | refine c_pickD rfl (by assumption) (d_loadBD rfl rfl rfl (by first | rfl | (simp only [cellsD]; rfl))) ?_
    | refine c_pickD rfl (by assumption) (d_bin2B rfl rfl rfl rfl) ?_
    | refine c_pickD rfl (by assumption) (d_boxW rfl rfl rfl (by first | rfl | (simp only [cellsD]; rfl))) ?_
    | refine c_pickD rfl (by assumption) (d_cmpBool rfl rfl rfl (by kernel_rfl) rfl) ?_
    | refine c_pickD rfl (by assumption) (d_nilD rfl rfl) ?_
    | refine c_pickD rfl (by assumption) (d_cmpNil rfl rfl rfl (by kernel_rfl) (by first | exact NilIs.ptr | exact NilIs.none | exact NilIs.nilI | assumption) rfl) ?_
    | refine c_pickD rfl (by assumption) (d_not rfl rfl) ?_
    | refine c_pickD rfl (by assumption) (d_loadD rfl rfl (by first | rfl | (simp only [cellsD]; rfl))) ?_
    | refine c_splitT rfl rfl (fun h => ?_) (fun h => ?_)
    | refine c_splitF rfl rfl (fun h => ?_) (fun h => ?_)
    | fail)
      all_goals exact PLe.refl _
    | _ =>
      refine pcall_of_run Try.func72 rfl Try.ntmps72 rfl (fun X => ?_)
      unfold dvPE
      repeat' (first
    | refine run_seq ?_
    | (refine k_pick rfl ?_; first
      | refine k_assignD rfl rfl ?_
      | refine k_moveD rfl rfl ?_
      | refine k_fieldAddrB rfl rfl rfl ?_
      | refine k_loadW rfl rfl rfl (by first | rfl | (simp only [cellsD]; rfl)) ?_
      | refine k_loadBD rfl rfl rfl (by first | rfl | (simp only [cellsD]; rfl)) ?_
      | refine k_bin2B rfl rfl rfl rfl ?_
      | refine k_boxW rfl rfl rfl (by first | rfl | (simp only [cellsD]; rfl)) ?_
      | refine k_cmpBool rfl rfl rfl (by kernel_rfl) rfl ?_
      | refine k_nilD rfl rfl ?_
      | refine k_cmpNil rfl rfl rfl (by kernel_rfl) (by first | exact NilIs.ptr | exact NilIs.none | exact NilIs.nilI | assumption) rfl ?_
      | refine k_not rfl rfl ?_
      | refine k_loadD rfl rfl (by first | rfl | (simp only [cellsD]; rfl)) ?_)
    | refine run_opsEnd ?_
    | refine run_region ?_
    | refine run_condT rfl (by first | rfl | assumption) ?_
    | refine run_condF rfl (by first | rfl | assumption) ?_
    | refine run_cond rfl (fun h => ?_) (fun h => ?_)
    | (refine k_guardY rfl rfl (by first | rfl | assumption) ?_; first
      | refine k_assignD rfl rfl ?_
      | refine k_moveD rfl rfl ?_
      | refine k_fieldAddrB rfl rfl rfl ?_
      | refine k_loadW rfl rfl rfl (by first | rfl | (simp only [cellsD]; rfl)) ?_
      | refine k_loadBD rfl rfl rfl (by first | rfl | (simp only [cellsD]; rfl)) ?_
      | refine k_bin2B rfl rfl rfl rfl ?_
      | refine k_boxW rfl rfl rfl (by first | rfl | (simp only [cellsD]; rfl)) ?_
      | refine k_cmpBool rfl rfl rfl (by kernel_rfl) rfl ?_
      | refine k_nilD rfl rfl ?_
      | refine k_cmpNil rfl rfl rfl (by kernel_rfl) (by first | exact NilIs.ptr | exact NilIs.none | exact NilIs.nilI | assumption) rfl ?_
      | refine k_not rfl rfl ?_
      | refine k_loadD rfl rfl (by first | rfl | (simp only [cellsD]; rfl)) ?_)
    | refine k_guardU rfl rfl rfl ?_
    | refine k_guardNT rfl rfl (by first | rfl | assumption) rfl ?_
    | refine k_guardNF rfl rfl (by first | rfl | assumption) rfl ?_
    | refine k_guardT rfl rfl rfl (fun h => ?_) (fun h => ?_)
    | refine k_guardF rfl rfl rfl (fun h => ?_) (fun h => ?_)
    | refine run_block ?_
    | refine run_blkEnd ?_
    | refine run_skip ?_
    | refine run_exit rfl ?_
    | refine run_retOk (resOk_tmp rfl rfl ?_)
    | refine run_retOk (resOk_tmp2 rfl rfl rfl ?_ ?_)
    | refine run_retOk (resOk_cell rfl rfl rfl (by first | rfl | (simp only [cellsD]; rfl)) ?_)
    | refine run_retOk (resOk_cellTmp rfl rfl rfl (by first | rfl | (simp only [cellsD]; rfl)) rfl ?_ ?_)
    | (first
      | refine k_assignD rfl rfl ?_
      | refine k_moveD rfl rfl ?_
      | refine k_fieldAddrB rfl rfl rfl ?_
      | refine k_loadW rfl rfl rfl (by first | rfl | (simp only [cellsD]; rfl)) ?_
      | refine k_loadBD rfl rfl rfl (by first | rfl | (simp only [cellsD]; rfl)) ?_
      | refine k_bin2B rfl rfl rfl rfl ?_
      | refine k_boxW rfl rfl rfl (by first | rfl | (simp only [cellsD]; rfl)) ?_
      | refine k_cmpBool rfl rfl rfl (by kernel_rfl) rfl ?_
      | refine k_nilD rfl rfl ?_
      | refine k_cmpNil rfl rfl rfl (by kernel_rfl) (by first | exact NilIs.ptr | exact NilIs.none | exact NilIs.nilI | assumption) rfl ?_
      | refine k_not rfl rfl ?_
      | refine k_loadD rfl rfl (by first | rfl | (simp only [cellsD]; rfl)) ?_)
    | refine run_drawC (by kernel_rfl) ?_
    | refine c_nil (And.intro (by kernel_rfl) ?_)
    | refine c_pick (d_assignD rfl rfl) ?_
    | refine c_pick (d_moveD rfl rfl) ?_
    | refine c_pick (d_fieldAddrB rfl rfl rfl) ?_
    | refine c_pick (d_loadW rfl rfl rfl (by first | rfl | (simp only [cellsD]; rfl))) ?_
    | refine c_pick (d_loadBD rfl rfl rfl (by first | rfl | (simp only [cellsD]; rfl))) ?_
    | refine c_pick (d_bin2B rfl rfl rfl rfl) ?_
    | refine c_pick (d_boxW rfl rfl rfl (by first | rfl | (simp only [cellsD]; rfl))) ?_
    | refine c_pick (d_cmpBool rfl rfl rfl (by kernel_rfl) rfl) ?_
    | refine c_pick (d_nilD rfl rfl) ?_
    | refine c_pick (d_cmpNil rfl rfl rfl (by kernel_rfl) (by first | exact NilIs.ptr | exact NilIs.none | exact NilIs.nilI | assumption) rfl) ?_
    | refine c_pick (d_not rfl rfl) ?_
    | refine c_pick (d_loadD rfl rfl (by first | rfl | (simp only [cellsD]; rfl))) ?_
    | refine c_passU rfl rfl ?_
    | refine c_passT rfl (by first | rfl | assumption) rfl ?_
    | refine c_passF rfl (by first | rfl | assumption) rfl ?_
    | refine c_pickY rfl (by first | rfl | assumption) (d_assignD rfl rfl) ?_
    | refine c_pickY rfl (by first | rfl | assumption) (d_moveD rfl rfl) ?_
    | refine c_pickY rfl (by first | rfl | assumption) (d_fieldAddrB rfl rfl rfl) ?_
    | refine c_pickY rfl (by first | rfl | assumption) (d_loadW rfl rfl rfl (by first | rfl | (simp only [cellsD]; rfl))) ?_
    | refine c_pickY rfl (by first | rfl | assumption) (d_loadBD rfl rfl rfl (by first | rfl | (simp only [cellsD]; rfl))) ?_
    | refine c_pickY rfl (by first | rfl | assumption) (d_bin2B rfl rfl rfl rfl) ?_
    | refine c_pickY rfl (by first | rfl | assumption) (d_boxW rfl rfl rfl (by first | rfl | (simp only [cellsD]; rfl))) ?_
    | refine c_pickY rfl (by first | rfl | assumption) (d_cmpBool rfl rfl rfl (by kernel_rfl) rfl) ?_
    | refine c_pickY rfl (by first | rfl | assumption) (d_nilD rfl rfl) ?_
    | refine c_pickY rfl (by first | rfl | assumption) (d_cmpNil rfl rfl rfl (by kernel_rfl) (by first | exact NilIs.ptr | exact NilIs.none | exact NilIs.nilI | assumption) rfl) ?_
    | refine c_pickY rfl (by first | rfl | assumption) (d_not rfl rfl) ?_
    | refine c_pickY rfl (by first | rfl | assumption) (d_loadD rfl rfl (by first | rfl | (simp only [cellsD]; rfl))) ?_
    | refine c_pickD rfl (by assumption) (d_assignD rfl rfl) ?_
    | refine c_pickD rfl (by assumption) (d_moveD rfl rfl) ?_
    | refine c_pickD rfl (by assumption) (d_fieldAddrB rfl rfl rfl) ?_
    | refine c_pickD rfl (by assumption) (d_loadW rfl rfl rfl (by first | rfl | (simp only [cellsD]; rfl))) ?_
    | refine c_pickD rfl (by assumption) (d_loadBD rfl rfl rfl (by first | rfl | (simp only [cellsD]; rfl))) ?_
    | refine c_pickD rfl (by assumption) (d_bin2B rfl rfl rfl rfl) ?_
    | refine c_pickD rfl (by assumption) (d_boxW rfl rfl rfl (by first | rfl | (simp only [cellsD]; rfl))) ?_
    | refine c_pickD rfl (by assumption) (d_cmpBool rfl rfl rfl (by kernel_rfl) rfl) ?_
    | refine c_pickD rfl (by assumption) (d_nilD rfl rfl) ?_
    | refine c_pickD rfl (by assumption) (d_cmpNil rfl rfl rfl (by kernel_rfl) (by first | exact NilIs.ptr | exact NilIs.none | exact NilIs.nilI | assumption) rfl) ?_
    | refine c_pickD rfl (by assumption) (d_not rfl rfl) ?_
    | refine c_pickD rfl (by assumption) (d_loadD rfl rfl (by first | rfl | (simp only [cellsD]; rfl))) ?_
    | refine c_splitT rfl rfl (fun h => ?_) (fun h => ?_)
    | refine c_splitF rfl rfl (fun h => ?_) (fun h => ?_)
    | fail)
      all_goals exact PLe.refl _
  | key a =>
    cases q with
    | key b =>
      have c1 := flEquals_p a b
      have e : eqPE (.key a) (.key b) = eqLx eqFd a b := rfl
      rw [e]
      unfold dvPE
      refine pcall_of_run Try.func72 rfl Try.ntmps72 rfl (fun X => ?_)
      repeat' (first
    | refine run_seq ?_
    | (refine k_pick rfl ?_; first
      | refine k_assignD rfl rfl ?_
      | refine k_moveD rfl rfl ?_
      | refine k_fieldAddrB rfl rfl rfl ?_
      | refine k_loadW rfl rfl rfl (by first | rfl | (simp only [cellsD]; rfl)) ?_
      | refine k_loadBD rfl rfl rfl (by first | rfl | (simp only [cellsD]; rfl)) ?_
      | refine k_bin2B rfl rfl rfl rfl ?_
      | refine k_boxW rfl rfl rfl (by first | rfl | (simp only [cellsD]; rfl)) ?_
      | refine k_call rfl (by kernel_rfl) rfl (by first | exact c1) ?_
      | refine k_cmpBool rfl rfl rfl (by kernel_rfl) rfl ?_
      | refine k_nilD rfl rfl ?_
      | refine k_cmpNil rfl rfl rfl (by kernel_rfl) (by first | exact NilIs.ptr | exact NilIs.none | exact NilIs.nilI | assumption) rfl ?_
      | refine k_not rfl rfl ?_
      | refine k_loadD rfl rfl (by first | rfl | (simp only [cellsD]; rfl)) ?_)
    | refine run_opsEnd ?_
    | refine run_region ?_
    | refine run_condT rfl (by first | rfl | assumption) ?_
    | refine run_condF rfl (by first | rfl | assumption) ?_
    | refine run_cond rfl (fun h => ?_) (fun h => ?_)
    | (refine k_guardY rfl rfl (by first | rfl | assumption) ?_; first
      | refine k_assignD rfl rfl ?_
      | refine k_moveD rfl rfl ?_
      | refine k_fieldAddrB rfl rfl rfl ?_
      | refine k_loadW rfl rfl rfl (by first | rfl | (simp only [cellsD]; rfl)) ?_
      | refine k_loadBD rfl rfl rfl (by first | rfl | (simp only [cellsD]; rfl)) ?_
      | refine k_bin2B rfl rfl rfl rfl ?_
      | refine k_boxW rfl rfl rfl (by first | rfl | (simp only [cellsD]; rfl)) ?_
      | refine k_call rfl (by kernel_rfl) rfl (by first | exact c1) ?_
      | refine k_cmpBool rfl rfl rfl (by kernel_rfl) rfl ?_
      | refine k_nilD rfl rfl ?_
      | refine k_cmpNil rfl rfl rfl (by kernel_rfl) (by first | exact NilIs.ptr | exact NilIs.none | exact NilIs.nilI | assumption) rfl ?_
      | refine k_not rfl rfl ?_
      | refine k_loadD rfl rfl (by first | rfl | (simp only [cellsD]; rfl)) ?_)
    | refine k_guardU rfl rfl rfl ?_
    | refine k_guardNT rfl rfl (by first | rfl | assumption) rfl ?_
    | refine k_guardNF rfl rfl (by first | rfl | assumption) rfl ?_
    | refine k_guardT rfl rfl rfl (fun h => ?_) (fun h => ?_)
    | refine k_guardF rfl rfl rfl (fun h => ?_) (fun h => ?_)
    | refine run_block ?_
    | refine run_blkEnd ?_
    | refine run_skip ?_
    | refine run_exit rfl ?_
    | refine run_retOk (resOk_tmp rfl rfl ?_)
    | refine run_retOk (resOk_tmp2 rfl rfl rfl ?_ ?_)
    | refine run_retOk (resOk_cell rfl rfl rfl (by first | rfl | (simp only [cellsD]; rfl)) ?_)
    | refine run_retOk (resOk_cellTmp rfl rfl rfl (by first | rfl | (simp only [cellsD]; rfl)) rfl ?_ ?_)
    | (first
      | refine k_assignD rfl rfl ?_
      | refine k_moveD rfl rfl ?_
      | refine k_fieldAddrB rfl rfl rfl ?_
      | refine k_loadW rfl rfl rfl (by first | rfl | (simp only [cellsD]; rfl)) ?_
      | refine k_loadBD rfl rfl rfl (by first | rfl | (simp only [cellsD]; rfl)) ?_
      | refine k_bin2B rfl rfl rfl rfl ?_
      | refine k_boxW rfl rfl rfl (by first | rfl | (simp only [cellsD]; rfl)) ?_
      | refine k_call rfl (by kernel_rfl) rfl (by first | exact c1) ?_
      | refine k_cmpBool rfl rfl rfl (by kernel_rfl) rfl ?_
      | refine k_nilD rfl rfl ?_
      | refine k_cmpNil rfl rfl rfl (by kernel_rfl) (by first | exact NilIs.ptr | exact NilIs.none | exact NilIs.nilI | assumption) rfl ?_
      | refine k_not rfl rfl ?_
      | refine k_loadD rfl rfl (by first | rfl | (simp only [cellsD]; rfl)) ?_)
    | refine run_drawC (by kernel_rfl) ?_
    | refine c_nil (And.intro (by kernel_rfl) ?_)
    | refine c_pick (d_assignD rfl rfl) ?_
    | refine c_pick (d_moveD rfl rfl) ?_
    | refine c_pick (d_fieldAddrB rfl rfl rfl) ?_
    | refine c_pick (d_loadW rfl rfl rfl (by first | rfl | (simp only [cellsD]; rfl))) ?_
    | refine c_pick (d_loadBD rfl rfl rfl (by first | rfl | (simp only [cellsD]; rfl))) ?_
    | refine c_pick (d_bin2B rfl rfl rfl rfl) ?_
    | refine c_pick (d_boxW rfl rfl rfl (by first | rfl | (simp only [cellsD]; rfl))) ?_
    | refine c_pick (d_call rfl (by kernel_rfl) rfl (by first | exact c1)) ?_
    | refine c_pick (d_cmpBool rfl rfl rfl (by kernel_rfl) rfl) ?_
    | refine c_pick (d_nilD rfl rfl) ?_
    | refine c_pick (d_cmpNil rfl rfl rfl (by kernel_rfl) (by first | exact NilIs.ptr | exact NilIs.none | exact NilIs.nilI | assumption) rfl) ?_
    | refine c_pick (d_not rfl rfl) ?_
    | refine c_pick (d_loadD rfl rfl (by first | rfl | (simp only [cellsD]; rfl))) ?_
    | refine c_passU rfl rfl ?_
    | refine c_passT rfl (by first | rfl | assumption) rfl ?_
    | refine c_passF rfl (by first | rfl | assumption) rfl ?_
    | refine c_pickY rfl (by first | rfl | assumption) (d_assignD rfl rfl) ?_
    | refine c_pickY rfl (by first | rfl | assumption) (d_moveD rfl rfl) ?_
    | refine c_pickY rfl (by first | rfl | assumption) (d_fieldAddrB rfl rfl rfl) ?_
    | refine c_pickY rfl (by first | rfl | assumption) (d_loadW rfl rfl rfl (by first | rfl | (simp only [cellsD]; rfl))) ?_
    | refine c_pickY rfl (by first | rfl | assumption) (d_loadBD rfl rfl rfl (by first | rfl | (simp only [cellsD]; rfl))) ?_
    | refine c_pickY rfl (by first | rfl | assumption) (d_bin2B rfl rfl rfl rfl) ?_
    | refine c_pickY rfl (by first | rfl | assumption) (d_boxW rfl rfl rfl (by first | rfl | (simp only [cellsD]; rfl))) ?_
    | refine c_pickY rfl (by first | rfl | assumption) (d_call rfl (by kernel_rfl) rfl (by first | exact c1)) ?_
    | refine c_pickY rfl (by first | rfl | assumption) (d_cmpBool rfl rfl rfl (by kernel_rfl) rfl) ?_
    | refine c_pickY rfl (by first | rfl | assumption) (d_nilD rfl rfl) ?_
    | refine c_pickY rfl (by first | rfl | assumption) (d_cmpNil rfl rfl rfl (by kernel_rfl) (by first | exact NilIs.ptr | exact NilIs.none | exact NilIs.nilI | assumption) rfl) ?_
    | refine c_pickY rfl (by first | rfl | assumption) (d_not rfl rfl) ?_
    | refine c_pickY rfl (by first | rfl | assumption) (d_loadD rfl rfl (by first | rfl | (simp only [cellsD]; rfl))) ?_
    | refine c_pickD rfl (by assumption) (d_assignD rfl rfl) ?_
    | refine c_pickD rfl (by assumption) (d_moveD rfl rfl) ?_
    | refine c_pickD rfl (by assumption) (d_fieldAddrB rfl rfl rfl) ?_
    | refine c_pickD rfl (by assumption) (d_loadW rfl rfl rfl (by first | rfl | (simp only [cellsD]; rfl))) ?_
    | refine c_pickD rfl (by assumption) (d_loadBD rfl rfl rfl (by first | rfl | (simp only [cellsD]; rfl))) ?_
    | refine c_pickD rfl (by assumption) (d_bin2B rfl rfl rfl rfl) ?_
    | refine c_pickD rfl (by assumption) (d_boxW rfl rfl rfl (by first | rfl | (simp only [cellsD]; rfl))) ?_
    | refine c_pickD rfl (by assumption) (d_call rfl (by kernel_rfl) rfl (by first | exact c1)) ?_
    | refine c_pickD rfl (by assumption) (d_cmpBool rfl rfl rfl (by kernel_rfl) rfl) ?_
    | refine c_pickD rfl (by assumption) (d_nilD rfl rfl) ?_
    | refine c_pickD rfl (by assumption) (d_cmpNil rfl rfl rfl (by kernel_rfl) (by first | exact NilIs.ptr | exact NilIs.none | exact NilIs.nilI | assumption) rfl) ?_
    | refine c_pickD rfl (by assumption) (d_not rfl rfl) ?_
    | refine c_pickD rfl (by assumption) (d_loadD rfl rfl (by first | rfl | (simp only [cellsD]; rfl))) ?_
    | refine c_splitT rfl rfl (fun h => ?_) (fun h => ?_)
    | refine c_splitF rfl rfl (fun h => ?_) (fun h => ?_)
    | fail)
      all_goals exact PLe.refl _
    | _ =>
      refine pcall_of_run Try.func72 rfl Try.ntmps72 rfl (fun X => ?_)
      unfold dvPE
      repeat' (first
    | refine run_seq ?_
    | (refine k_pick rfl ?_; first
      | refine k_assignD rfl rfl ?_
      | refine k_moveD rfl rfl ?_
      | refine k_fieldAddrB rfl rfl rfl ?_
      | refine k_loadW rfl rfl rfl (by first | rfl | (simp only [cellsD]; rfl)) ?_
      | refine k_loadBD rfl rfl rfl (by first | rfl | (simp only [cellsD]; rfl)) ?_
      | refine k_bin2B rfl rfl rfl rfl ?_
      | refine k_boxW rfl rfl rfl (by first | rfl | (simp only [cellsD]; rfl)) ?_
      | refine k_cmpBool rfl rfl rfl (by kernel_rfl) rfl ?_
      | refine k_nilD rfl rfl ?_
      | refine k_cmpNil rfl rfl rfl (by kernel_rfl) (by first | exact NilIs.ptr | exact NilIs.none | exact NilIs.nilI | assumption) rfl ?_
      | refine k_not rfl rfl ?_
      | refine k_loadD rfl rfl (by first | rfl | (simp only [cellsD]; rfl)) ?_)
    | refine run_opsEnd ?_
    | refine run_region ?_
    | refine run_condT rfl (by first | rfl | assumption) ?_
    | refine run_condF rfl (by first | rfl | assumption) ?_
    | refine run_cond rfl (fun h => ?_) (fun h => ?_)
    | (refine k_guardY rfl rfl (by first | rfl | assumption) ?_; first
      | refine k_assignD rfl rfl ?_
      | refine k_moveD rfl rfl ?_
      | refine k_fieldAddrB rfl rfl rfl ?_
      | refine k_loadW rfl rfl rfl (by first | rfl | (simp only [cellsD]; rfl)) ?_
      | refine k_loadBD rfl rfl rfl (by first | rfl | (simp only [cellsD]; rfl)) ?_
      | refine k_bin2B rfl rfl rfl rfl ?_
      | refine k_boxW rfl rfl rfl (by first | rfl | (simp only [cellsD]; rfl)) ?_
      | refine k_cmpBool rfl rfl rfl (by kernel_rfl) rfl ?_
      | refine k_nilD rfl rfl ?_
      | refine k_cmpNil rfl rfl rfl (by kernel_rfl) (by first | exact NilIs.ptr | exact NilIs.none | exact NilIs.nilI | assumption) rfl ?_
      | refine k_not rfl rfl ?_
      | refine k_loadD rfl rfl (by first | rfl | (simp only [cellsD]; rfl)) ?_)
    | refine k_guardU rfl rfl rfl ?_
    | refine k_guardNT rfl rfl (by first | rfl | assumption) rfl ?_
    | refine k_guardNF rfl rfl (by first | rfl | assumption) rfl ?_
    | refine k_guardT rfl rfl rfl (fun h => ?_) (fun h => ?_)
    | refine k_guardF rfl rfl rfl (fun h => ?_) (fun h => ?_)
    | refine run_block ?_
    | refine run_blkEnd ?_
    | refine run_skip ?_
    | refine run_exit rfl ?_
    | refine run_retOk (resOk_tmp rfl rfl ?_)
    | refine run_retOk (resOk_tmp2 rfl rfl rfl ?_ ?_)
    | refine run_retOk (resOk_cell rfl rfl rfl (by first | rfl | (simp only [cellsD]; rfl)) ?_)
    | refine run_retOk (resOk_cellTmp rfl rfl rfl (by first | rfl | (simp only [cellsD]; rfl)) rfl ?_ ?_)
    | (first
      | refine k_assignD rfl rfl ?_
      | refine k_moveD rfl rfl ?_
      | refine k_fieldAddrB rfl rfl rfl ?_
      | refine k_loadW rfl rfl rfl (by first | rfl | (simp only [cellsD]; rfl)) ?_
      | refine k_loadBD rfl rfl rfl (by first | rfl | (simp only [cellsD]; rfl)) ?_
      | refine k_bin2B rfl rfl rfl rfl ?_
      | refine k_boxW rfl rfl rfl (by first | rfl | (simp only [cellsD]; rfl)) ?_
      | refine k_cmpBool rfl rfl rfl (by kernel_rfl) rfl ?_
      | refine k_nilD rfl rfl ?_
      | refine k_cmpNil rfl rfl rfl (by kernel_rfl) (by first | exact NilIs.ptr | exact NilIs.none | exact NilIs.nilI | assumption) rfl ?_
      | refine k_not rfl rfl ?_
      | refine k_loadD rfl rfl (by first | rfl | (simp only [cellsD]; rfl)) ?_)
    | refine run_drawC (by kernel_rfl) ?_
    | refine c_nil (And.intro (by kernel_rfl) ?_)
    | refine c_pick (d_assignD rfl rfl) ?_
    | refine c_pick (d_moveD rfl rfl) ?_
    | refine c_pick (d_fieldAddrB rfl rfl rfl) ?_
    | refine c_pick (d_loadW rfl rfl rfl (by first | rfl | (simp only [cellsD]; rfl))) ?_
    | refine c_pick (d_loadBD rfl rfl rfl (by first | rfl | (simp only [cellsD]; rfl))) ?_
    | refine c_pick (d_bin2B rfl rfl rfl rfl) ?_
    | refine c_pick (d_boxW rfl rfl rfl (by first | rfl | (simp only [cellsD]; rfl))) ?_
    | refine c_pick (d_cmpBool rfl rfl rfl (by kernel_rfl) rfl) ?_
    | refine c_pick (d_nilD rfl rfl) ?_
    | refine c_pick (d_cmpNil rfl rfl rfl (by kernel_rfl) (by first | exact NilIs.ptr | exact NilIs.none | exact NilIs.nilI | assumption) rfl) ?_
    | refine c_pick (d_not rfl rfl) ?_
    | refine c_pick (d_loadD rfl rfl (by first | rfl | (simp only [cellsD]; rfl))) ?_
    | refine c_passU rfl rfl ?_
    | refine c_passT rfl (by first | rfl | assumption) rfl ?_
    | refine c_passF rfl (by first | rfl | assumption) rfl ?_
    | refine c_pickY rfl (by first | rfl | assumption) (d_assignD rfl rfl) ?_
    | refine c_pickY rfl (by first | rfl | assumption) (d_moveD rfl rfl) ?_
    | refine c_pickY rfl (by first | rfl | assumption) (d_fieldAddrB rfl rfl rfl) ?_
    | refine c_pickY rfl (by first | rfl | assumption) (d_loadW rfl rfl rfl (by first | rfl | (simp only [cellsD]; rfl))) ?_
    | refine c_pickY rfl (by first | rfl | assumption) (d_loadBD rfl rfl rfl (by first | rfl | (simp only [cellsD]; rfl))) ?_
    | refine c_pickY rfl (by first | rfl | assumption) (d_bin2B rfl rfl rfl rfl) ?_
    | refine c_pickY rfl (by first | rfl | assumption) (d_boxW rfl rfl rfl (by first | rfl | (simp only [cellsD]; rfl))) ?_
    | refine c_pickY rfl (by first | rfl | assumption) (d_cmpBool rfl rfl rfl (by kernel_rfl) rfl) ?_
    | refine c_pickY rfl (by first | rfl | assumption) (d_nilD rfl rfl) ?_
    | refine c_pickY rfl (by first | rfl | assumption) (d_cmpNil rfl rfl rfl (by kernel_rfl) (by first | exact NilIs.ptr | exact NilIs.none | exact NilIs.nilI | assumption) rfl) ?_
    | refine c_pickY rfl (by first | rfl | assumption) (d_not rfl rfl) ?_
    | refine c_pickY rfl (by first | rfl | assumption) (d_loadD rfl rfl (by first | rfl | (simp only [cellsD]; rfl))) ?_
    | refine c_pickD rfl (by assumption) (d_assignD rfl rfl) ?_
    | refine c_pickD rfl (by assumption) (d_moveD rfl rfl) ?_
    | refine c_pickD rfl (by assumption) (d_fieldAddrB rfl rfl rfl) ?_
    | refine c_pickD rfl (by assumption) (d_loadW rfl rfl rfl (by first | rfl | (simp only [cellsD]; rfl))) ?_
    | refine c_pickD rfl (by assumption) (d_loadBD rfl rfl rfl (by first | rfl | (simp only [cellsD]; rfl))) ?_
    | refine c_pickD rfl (by assumption) (d_bin2B rfl rfl rfl rfl) ?_
    | refine c_pickD rfl (by assumption) (d_boxW rfl rfl rfl (by first | rfl | (simp only [cellsD]; rfl))) ?_
    | refine c_pickD rfl (by assumption) (d_cmpBool rfl rfl rfl (by kernel_rfl) rfl) ?_
    | refine c_pickD rfl (by assumption) (d_nilD rfl rfl) ?_
    | refine c_pickD rfl (by assumption) (d_cmpNil rfl rfl rfl (by kernel_rfl) (by first | exact NilIs.ptr | exact NilIs.none | exact NilIs.nilI | assumption) rfl) ?_
    | refine c_pickD rfl (by assumption) (d_not rfl rfl) ?_
    | refine c_pickD rfl (by assumption) (d_loadD rfl rfl (by first | rfl | (simp only [cellsD]; rfl))) ?_
    | refine c_splitT rfl rfl (fun h => ?_) (fun h => ?_)
    | refine c_splitF rfl rfl (fun h => ?_) (fun h => ?_)
    | fail)
      all_goals exact PLe.refl _
  | val a =>
    cases q with
    | val b =>
      have c1 := equals_p a b
      have e : eqPE (.val a) (.val b) = eqJ a b := rfl
      rw [e]
      unfold dvPE
      refine pcall_of_run Try.func72 rfl Try.ntmps72 rfl (fun X => ?_)
      repeat' (first
    | refine run_seq ?_
    | (refine k_pick rfl ?_; first
      | refine k_assignD rfl rfl ?_
      | refine k_moveD rfl rfl ?_
      | refine k_fieldAddrB rfl rfl rfl ?_
      | refine k_loadW rfl rfl rfl (by first | rfl | (simp only [cellsD]; rfl)) ?_
      | refine k_loadBD rfl rfl rfl (by first | rfl | (simp only [cellsD]; rfl)) ?_
      | refine k_bin2B rfl rfl rfl rfl ?_
      | refine k_boxW rfl rfl rfl (by first | rfl | (simp only [cellsD]; rfl)) ?_
      | refine k_call rfl (by kernel_rfl) rfl (by first | exact c1) ?_
      | refine k_cmpBool rfl rfl rfl (by kernel_rfl) rfl ?_
      | refine k_nilD rfl rfl ?_
      | refine k_cmpNil rfl rfl rfl (by kernel_rfl) (by first | exact NilIs.ptr | exact NilIs.none | exact NilIs.nilI | assumption) rfl ?_
      | refine k_not rfl rfl ?_
      | refine k_loadD rfl rfl (by first | rfl | (simp only [cellsD]; rfl)) ?_)
    | refine run_opsEnd ?_
    | refine run_region ?_
    | refine run_condT rfl (by first | rfl | assumption) ?_
    | refine run_condF rfl (by first | rfl | assumption) ?_
    | refine run_cond rfl (fun h => ?_) (fun h => ?_)
    | (refine k_guardY rfl rfl (by first | rfl | assumption) ?_; first
      | refine k_assignD rfl rfl ?_
      | refine k_moveD rfl rfl ?_
      | refine k_fieldAddrB rfl rfl rfl ?_
      | refine k_loadW rfl rfl rfl (by first | rfl | (simp only [cellsD]; rfl)) ?_
      | refine k_loadBD rfl rfl rfl (by first | rfl | (simp only [cellsD]; rfl)) ?_
      | refine k_bin2B rfl rfl rfl rfl ?_
      | refine k_boxW rfl rfl rfl (by first | rfl | (simp only [cellsD]; rfl)) ?_
      | refine k_call rfl (by kernel_rfl) rfl (by first | exact c1) ?_
      | refine k_cmpBool rfl rfl rfl (by kernel_rfl) rfl ?_
      | refine k_nilD rfl rfl ?_
      | refine k_cmpNil rfl rfl rfl (by kernel_rfl) (by first | exact NilIs.ptr | exact NilIs.none | exact NilIs.nilI | assumption) rfl ?_
      | refine k_not rfl rfl ?_
      | refine k_loadD rfl rfl (by first | rfl | (simp only [cellsD]; rfl)) ?_)
    | refine k_guardU rfl rfl rfl ?_
    | refine k_guardNT rfl rfl (by first | rfl | assumption) rfl ?_
    | refine k_guardNF rfl rfl (by first | rfl | assumption) rfl ?_
    | refine k_guardT rfl rfl rfl (fun h => ?_) (fun h => ?_)
    | refine k_guardF rfl rfl rfl (fun h => ?_) (fun h => ?_)
    | refine run_block ?_
    | refine run_blkEnd ?_
    | refine run_skip ?_
    | refine run_exit rfl ?_
    | refine run_retOk (resOk_tmp rfl rfl ?_)
    | refine run_retOk (resOk_tmp2 rfl rfl rfl ?_ ?_)
    | refine run_retOk (resOk_cell rfl rfl rfl (by first | rfl | (simp only [cellsD]; rfl)) ?_)
    | refine run_retOk (resOk_cellTmp rfl rfl rfl (by first | rfl | (simp only [cellsD]; rfl)) rfl ?_ ?_)
    | (first
      | refine k_assignD rfl rfl ?_
      | refine k_moveD rfl rfl ?_
      | refine k_fieldAddrB rfl rfl rfl ?_
      | refine k_loadW rfl rfl rfl (by first | rfl | (simp only [cellsD]; rfl)) ?_
      | refine k_loadBD rfl rfl rfl (by first | rfl | (simp only [cellsD]; rfl)) ?_
      | refine k_bin2B rfl rfl rfl rfl ?_
      | refine k_boxW rfl rfl rfl (by first | rfl | (simp only [cellsD]; rfl)) ?_
      | refine k_call rfl (by kernel_rfl) rfl (by first | exact c1) ?_
      | refine k_cmpBool rfl rfl rfl (by kernel_rfl) rfl ?_
      | refine k_nilD rfl rfl ?_
      | refine k_cmpNil rfl rfl rfl (by kernel_rfl) (by first | exact NilIs.ptr | exact NilIs.none | exact NilIs.nilI | assumption) rfl ?_
      | refine k_not rfl rfl ?_
      | refine k_loadD rfl rfl (by first | rfl | (simp only [cellsD]; rfl)) ?_)
    | refine run_drawC (by kernel_rfl) ?_
    | refine c_nil (And.intro (by kernel_rfl) ?_)
    | refine c_pick (d_assignD rfl rfl) ?_
    | refine c_pick (d_moveD rfl rfl) ?_
    | refine c_pick (d_fieldAddrB rfl rfl rfl) ?_
    | refine c_pick (d_loadW rfl rfl rfl (by first | rfl | (simp only [cellsD]; rfl))) ?_
    | refine c_pick (d_loadBD rfl rfl rfl (by first | rfl | (simp only [cellsD]; rfl))) ?_
    | refine c_pick (d_bin2B rfl rfl rfl rfl) ?_
    | refine c_pick (d_boxW rfl rfl rfl (by first | rfl | (simp only [cellsD]; rfl))) ?_
    | refine c_pick (d_call rfl (by kernel_rfl) rfl (by first | exact c1)) ?_
    | refine c_pick (d_cmpBool rfl rfl rfl (by kernel_rfl) rfl) ?_
    | refine c_pick (d_nilD rfl rfl) ?_
    | refine c_pick (d_cmpNil rfl rfl rfl (by kernel_rfl) (by first | exact NilIs.ptr | exact NilIs.none | exact NilIs.nilI | assumption) rfl) ?_
    | refine c_pick (d_not rfl rfl) ?_
    | refine c_pick (d_loadD rfl rfl (by first | rfl | (simp only [cellsD]; rfl))) ?_
    | refine c_passU rfl rfl ?_
    | refine c_passT rfl (by first | rfl | assumption) rfl ?_
    | refine c_passF rfl (by first | rfl | assumption) rfl ?_
    | refine c_pickY rfl (by first | rfl | assumption) (d_assignD rfl rfl) ?_
    | refine c_pickY rfl (by first | rfl | assumption) (d_moveD rfl rfl) ?_
    | refine c_pickY rfl (by first | rfl | assumption) (d_fieldAddrB rfl rfl rfl) ?_
    | refine c_pickY rfl (by first | rfl | assumption) (d_loadW rfl rfl rfl (by first | rfl | (simp only [cellsD]; rfl))) ?_
    | refine c_pickY rfl (by first | rfl | assumption) (d_loadBD rfl rfl rfl (by first | rfl | (simp only [cellsD]; rfl))) ?_
    | refine c_pickY rfl (by first | rfl | assumption) (d_bin2B rfl rfl rfl rfl) ?_
    | refine c_pickY rfl (by first | rfl | assumption) (d_boxW rfl rfl rfl (by first | rfl | (simp only [cellsD]; rfl))) ?_
    | refine c_pickY rfl (by first | rfl | assumption) (d_call rfl (by kernel_rfl) rfl (by first | exact c1)) ?_
    | refine c_pickY rfl (by first | rfl | assumption) (d_cmpBool rfl rfl rfl (by kernel_rfl) rfl) ?_
    | refine c_pickY rfl (by first | rfl | assumption) (d_nilD rfl rfl) ?_
    | refine c_pickY rfl (by first | rfl | assumption) (d_cmpNil rfl rfl rfl (by kernel_rfl) (by first | exact NilIs.ptr | exact NilIs.none | exact NilIs.nilI | assumption) rfl) ?_
    | refine c_pickY rfl (by first | rfl | assumption) (d_not rfl rfl) ?_
    | refine c_pickY rfl (by first | rfl | assumption) (d_loadD rfl rfl (by first | rfl | (simp only [cellsD]; rfl))) ?_
    | refine c_pickD rfl (by assumption) (d_assignD rfl rfl) ?_
    | refine c_pickD rfl (by assumption) (d_moveD rfl rfl) ?_
    | refine c_pickD rfl (by assumption) (d_fieldAddrB rfl rfl rfl) ?_
    | refine c_pickD rfl (by assumption) (d_loadW rfl rfl rfl (by first | rfl | (simp only [cellsD]; rfl))) ?_
    | refine c_pickD rfl (by assumption) (d_loadBD rfl rfl rfl (by first | rfl | (simp only [cellsD]; rfl))) ?_
    | refine c_pickD rfl (by assumption) (d_bin2B rfl rfl rfl rfl) ?_
    | refine c_pickD rfl (by assumption) (d_boxW rfl rfl rfl (by first | rfl | (simp only [cellsD]; rfl))) ?_
    | refine c_pickD rfl (by assumption) (d_call rfl (by kernel_rfl) rfl (by first | exact c1)) ?_
    | refine c_pickD rfl (by assumption) (d_cmpBool rfl rfl rfl (by kernel_rfl) rfl) ?_
    | refine c_pickD rfl (by assumption) (d_nilD rfl rfl) ?_
    | refine c_pickD rfl (by assumption) (d_cmpNil rfl rfl rfl (by kernel_rfl) (by first | exact NilIs.ptr | exact NilIs.none | exact NilIs.nilI | assumption) rfl) ?_
    | refine c_pickD rfl (by assumption) (d_not rfl rfl) ?_
    | refine c_pickD rfl (by assumption) (d_loadD rfl rfl (by first | rfl | (simp only [cellsD]; rfl))) ?_
    | refine c_splitT rfl rfl (fun h => ?_) (fun h => ?_)
    | refine c_splitF rfl rfl (fun h => ?_) (fun h => ?_)
    | fail)
      all_goals exact PLe.refl _
    | _ =>
      refine pcall_of_run Try.func72 rfl Try.ntmps72 rfl (fun X => ?_)
      unfold dvPE
      repeat' (first
    | refine run_seq ?_
    | (refine k_pick rfl ?_; first
      | refine k_assignD rfl rfl ?_
      | refine k_moveD rfl rfl ?_
      | refine k_fieldAddrB rfl rfl rfl ?_
      | refine k_loadW rfl rfl rfl (by first | rfl | (simp only [cellsD]; rfl)) ?_
      | refine k_loadBD rfl rfl rfl (by first | rfl | (simp only [cellsD]; rfl)) ?_
      | refine k_bin2B rfl rfl rfl rfl ?_
      | refine k_boxW rfl rfl rfl (by first | rfl | (simp only [cellsD]; rfl)) ?_
      | refine k_cmpBool rfl rfl rfl (by kernel_rfl) rfl ?_
      | refine k_nilD rfl rfl ?_
      | refine k_cmpNil rfl rfl rfl (by kernel_rfl) (by first | exact NilIs.ptr | exact NilIs.none | exact NilIs.nilI | assumption) rfl ?_
      | refine k_not rfl rfl ?_
      | refine k_loadD rfl rfl (by first | rfl | (simp only [cellsD]; rfl)) ?_)
    | refine run_opsEnd ?_
    | refine run_region ?_
    | refine run_condT rfl (by first | rfl | assumption) ?_
    | refine run_condF rfl (by first | rfl | assumption) ?_
    | refine run_cond rfl (fun h => ?_) (fun h => ?_)
    | (refine k_guardY rfl rfl (by first | rfl | assumption) ?_; first
      | refine k_assignD rfl rfl ?_
      | refine k_moveD rfl rfl ?_
      | refine k_fieldAddrB rfl rfl rfl ?_
      | refine k_loadW rfl rfl rfl (by first | rfl | (simp only [cellsD]; rfl)) ?_
      | refine k_loadBD rfl rfl rfl (by first | rfl | (simp only [cellsD]; rfl)) ?_
      | refine k_bin2B rfl rfl rfl rfl ?_
      | refine k_boxW rfl rfl rfl (by first | rfl | (simp only [cellsD]; rfl)) ?_
      | refine k_cmpBool rfl rfl rfl (by kernel_rfl) rfl ?_
      | refine k_nilD rfl rfl ?_
      | refine k_cmpNil rfl rfl rfl (by kernel_rfl) (by first | exact NilIs.ptr | exact NilIs.none | exact NilIs.nilI | assumption) rfl ?_
      | refine k_not rfl rfl ?_
      | refine k_loadD rfl rfl (by first | rfl | (simp only [cellsD]; rfl)) ?_)
    | refine k_guardU rfl rfl rfl ?_
    | refine k_guardNT rfl rfl (by first | rfl | assumption) rfl ?_
    | refine k_guardNF rfl rfl (by first | rfl | assumption) rfl ?_
    | refine k_guardT rfl rfl rfl (fun h => ?_) (fun h => ?_)
    | refine k_guardF rfl rfl rfl (fun h => ?_) (fun h => ?_)
    | refine run_block ?_
    | refine run_blkEnd ?_
    | refine run_skip ?_
    | refine run_exit rfl ?_
    | refine run_retOk (resOk_tmp rfl rfl ?_)
    | refine run_retOk (resOk_tmp2 rfl rfl rfl ?_ ?_)
    | refine run_retOk (resOk_cell rfl rfl rfl (by first | rfl | (simp only [cellsD]; rfl)) ?_)
    | refine run_retOk (resOk_cellTmp rfl rfl rfl (by first | rfl | (simp only [cellsD]; rfl)) rfl ?_ ?_)
    | (first
      | refine k_assignD rfl rfl ?_
      | refine k_moveD rfl rfl ?_
      | refine k_fieldAddrB rfl rfl rfl ?_
      | refine k_loadW rfl rfl rfl (by first | rfl | (simp only [cellsD]; rfl)) ?_
      | refine k_loadBD rfl rfl rfl (by first | rfl | (simp only [cellsD]; rfl)) ?_
      | refine k_bin2B rfl rfl rfl rfl ?_
      | refine k_boxW rfl rfl rfl (by first | rfl | (simp only [cellsD]; rfl)) ?_
      | refine k_cmpBool rfl rfl rfl (by kernel_rfl) rfl ?_
      | refine k_nilD rfl rfl ?_
      | refine k_cmpNil rfl rfl rfl (by kernel_rfl) (by first | exact NilIs.ptr | exact NilIs.none | exact NilIs.nilI | assumption) rfl ?_
      | refine k_not rfl rfl ?_
      | refine k_loadD rfl rfl (by first | rfl | (simp only [cellsD]; rfl)) ?_)
    | refine run_drawC (by kernel_rfl) ?_
    | refine c_nil (And.intro (by kernel_rfl) ?_)
    | refine c_pick (d_assignD rfl rfl) ?_
    | refine c_pick (d_moveD rfl rfl) ?_
    | refine c_pick (d_fieldAddrB rfl rfl rfl) ?_
    | refine c_pick (d_loadW rfl rfl rfl (by first | rfl | (simp only [cellsD]; rfl))) ?_
    | refine c_pick (d_loadBD rfl rfl rfl (by first | rfl | (simp only [cellsD]; rfl))) ?_
    | refine c_pick (d_bin2B rfl rfl rfl rfl) ?_
    | refine c_pick (d_boxW rfl rfl rfl (by first | rfl | (simp only [cellsD]; rfl))) ?_
    | refine c_pick (d_cmpBool rfl rfl rfl (by kernel_rfl) rfl) ?_
    | refine c_pick (d_nilD rfl rfl) ?_
    | refine c_pick (d_cmpNil rfl rfl rfl (by kernel_rfl) (by first | exact NilIs.ptr | exact NilIs.none | exact NilIs.nilI | assumption) rfl) ?_
    | refine c_pick (d_not rfl rfl) ?_
    | refine c_pick (d_loadD rfl rfl (by first | rfl | (simp only [cellsD]; rfl))) ?_
    | refine c_passU rfl rfl ?_
    | refine c_passT rfl (by first | rfl | assumption) rfl ?_
    | refine c_passF rfl (by first | rfl | assumption) rfl ?_
    | refine c_pickY rfl (by first | rfl | assumption) (d_assignD rfl rfl) ?_
    | refine c_pickY rfl (by first | rfl | assumption) (d_moveD rfl rfl) ?_
    | refine c_pickY rfl (by first | rfl | assumption) (d_fieldAddrB rfl rfl rfl) ?_
    | refine c_pickY rfl (by first | rfl | assumption) (d_loadW rfl rfl rfl (by first | rfl | (simp only [cellsD]; rfl))) ?_
    | refine c_pickY rfl (by first | rfl | assumption) (d_loadBD rfl rfl rfl (by first | rfl | (simp only [cellsD]; rfl))) ?_
    | refine c_pickY rfl (by first | rfl | assumption) (d_bin2B rfl rfl rfl rfl) ?_
    | refine c_pickY rfl (by first | rfl | assumption) (d_boxW rfl rfl rfl (by first | rfl | (simp only [cellsD]; rfl))) ?_
    | refine c_pickY rfl (by first | rfl | assumption) (d_cmpBool rfl rfl rfl (by kernel_rfl) rfl) ?_
    | refine c_pickY rfl (by first | rfl | assumption) (d_nilD rfl rfl) ?_
    | refine c_pickY rfl (by first | rfl | assumption) (d_cmpNil rfl rfl rfl (by kernel_rfl) (by first | exact NilIs.ptr | exact NilIs.none | exact NilIs.nilI | assumption) rfl) ?_
    | refine c_pickY rfl (by first | rfl | assumption) (d_not rfl rfl) ?_
    | refine c_pickY rfl (by first | rfl | assumption) (d_loadD rfl rfl (by first | rfl | (simp only [cellsD]; rfl))) ?_
    | refine c_pickD rfl (by assumption) (d_assignD rfl rfl) ?_
    | refine c_pickD rfl (by assumption) (d_moveD rfl rfl) ?_
    | refine c_pickD rfl (by assumption) (d_fieldAddrB rfl rfl rfl) ?_
    | refine c_pickD rfl (by assumption) (d_loadW rfl rfl rfl (by first | rfl | (simp only [cellsD]; rfl))) ?_
    | refine c_pickD rfl (by assumption) (d_loadBD rfl rfl rfl (by first | rfl | (simp only [cellsD]; rfl))) ?_
    | refine c_pickD rfl (by assumption) (d_bin2B rfl rfl rfl rfl) ?_
    | refine c_pickD rfl (by assumption) (d_boxW rfl rfl rfl (by first | rfl | (simp only [cellsD]; rfl))) ?_
    | refine c_pickD rfl (by assumption) (d_cmpBool rfl rfl rfl (by kernel_rfl) rfl) ?_
    | refine c_pickD rfl (by assumption) (d_nilD rfl rfl) ?_
    | refine c_pickD rfl (by assumption) (d_cmpNil rfl rfl rfl (by kernel_rfl) (by first | exact NilIs.ptr | exact NilIs.none | exact NilIs.nilI | assumption) rfl) ?_
    | refine c_pickD rfl (by assumption) (d_not rfl rfl) ?_
    | refine c_pickD rfl (by assumption) (d_loadD rfl rfl (by first | rfl | (simp only [cellsD]; rfl))) ?_
    | refine c_splitT rfl rfl (fun h => ?_) (fun h => ?_)
    | refine c_splitF rfl rfl (fun h => ?_) (fun h => ?_)
    | fail)
      all_goals exact PLe.refl _
  | idx a =>
    cases q with
    | idx b =>
      have e : eqPE (.idx a) (.idx b) = decide (a = b) := rfl
      rw [e]
      unfold dvPE
      refine pcall_of_run Try.func72 rfl Try.ntmps72 rfl (fun X => ?_)
      repeat' (first
    | refine run_seq ?_
    | (refine k_pick rfl ?_; first
      | refine k_assignD rfl rfl ?_
      | refine k_moveD rfl rfl ?_
      | refine k_fieldAddrB rfl rfl rfl ?_
      | refine k_loadW rfl rfl rfl (by first | rfl | (simp only [cellsD]; rfl)) ?_
      | refine k_loadBD rfl rfl rfl (by first | rfl | (simp only [cellsD]; rfl)) ?_
      | refine k_bin2B rfl rfl rfl rfl ?_
      | refine k_boxW rfl rfl rfl (by first | rfl | (simp only [cellsD]; rfl)) ?_
      | refine k_cmpBool rfl rfl rfl (by kernel_rfl) rfl ?_
      | refine k_nilD rfl rfl ?_
      | refine k_cmpNil rfl rfl rfl (by kernel_rfl) (by first | exact NilIs.ptr | exact NilIs.none | exact NilIs.nilI | assumption) rfl ?_
      | refine k_not rfl rfl ?_
      | refine k_loadD rfl rfl (by first | rfl | (simp only [cellsD]; rfl)) ?_)
    | refine run_opsEnd ?_
    | refine run_region ?_
    | refine run_condT rfl (by first | rfl | assumption) ?_
    | refine run_condF rfl (by first | rfl | assumption) ?_
    | refine run_cond rfl (fun h => ?_) (fun h => ?_)
    | (refine k_guardY rfl rfl (by first | rfl | assumption) ?_; first
      | refine k_assignD rfl rfl ?_
      | refine k_moveD rfl rfl ?_
      | refine k_fieldAddrB rfl rfl rfl ?_
      | refine k_loadW rfl rfl rfl (by first | rfl | (simp only [cellsD]; rfl)) ?_
      | refine k_loadBD rfl rfl rfl (by first | rfl | (simp only [cellsD]; rfl)) ?_
      | refine k_bin2B rfl rfl rfl rfl ?_
      | refine k_boxW rfl rfl rfl (by first | rfl | (simp only [cellsD]; rfl)) ?_
      | refine k_cmpBool rfl rfl rfl (by kernel_rfl) rfl ?_
      | refine k_nilD rfl rfl ?_
      | refine k_cmpNil rfl rfl rfl (by kernel_rfl) (by first | exact NilIs.ptr | exact NilIs.none | exact NilIs.nilI | assumption) rfl ?_
      | refine k_not rfl rfl ?_
      | refine k_loadD rfl rfl (by first | rfl | (simp only [cellsD]; rfl)) ?_)
    | refine k_guardU rfl rfl rfl ?_
    | refine k_guardNT rfl rfl (by first | rfl | assumption) rfl ?_
    | refine k_guardNF rfl rfl (by first | rfl | assumption) rfl ?_
    | refine k_guardT rfl rfl rfl (fun h => ?_) (fun h => ?_)
    | refine k_guardF rfl rfl rfl (fun h => ?_) (fun h => ?_)
    | refine run_block ?_
    | refine run_blkEnd ?_
    | refine run_skip ?_
    | refine run_exit rfl ?_
    | refine run_retOk (resOk_tmp rfl rfl ?_)
    | refine run_retOk (resOk_tmp2 rfl rfl rfl ?_ ?_)
    | refine run_retOk (resOk_cell rfl rfl rfl (by first | rfl | (simp only [cellsD]; rfl)) ?_)
    | refine run_retOk (resOk_cellTmp rfl rfl rfl (by first | rfl | (simp only [cellsD]; rfl)) rfl ?_ ?_)
    | (first
      | refine k_assignD rfl rfl ?_
      | refine k_moveD rfl rfl ?_
      | refine k_fieldAddrB rfl rfl rfl ?_
      | refine k_loadW rfl rfl rfl (by first | rfl | (simp only [cellsD]; rfl)) ?_
      | refine k_loadBD rfl rfl rfl (by first | rfl | (simp only [cellsD]; rfl)) ?_
      | refine k_bin2B rfl rfl rfl rfl ?_
      | refine k_boxW rfl rfl rfl (by first | rfl | (simp only [cellsD]; rfl)) ?_
      | refine k_cmpBool rfl rfl rfl (by kernel_rfl) rfl ?_
      | refine k_nilD rfl rfl ?_
      | refine k_cmpNil rfl rfl rfl (by kernel_rfl) (by first | exact NilIs.ptr | exact NilIs.none | exact NilIs.nilI | assumption) rfl ?_
      | refine k_not rfl rfl ?_
      | refine k_loadD rfl rfl (by first | rfl | (simp only [cellsD]; rfl)) ?_)
    | refine run_drawC (by kernel_rfl) ?_
    | refine c_nil (And.intro (by kernel_rfl) ?_)
    | refine c_pick (d_assignD rfl rfl) ?_
    | refine c_pick (d_moveD rfl rfl) ?_
    | refine c_pick (d_fieldAddrB rfl rfl rfl) ?_
    | refine c_pick (d_loadW rfl rfl rfl (by first | rfl | (simp only [cellsD]; rfl))) ?_
    | refine c_pick (d_loadBD rfl rfl rfl (by first | rfl | (simp only [cellsD]; rfl))) ?_
    | refine c_pick (d_bin2B rfl rfl rfl rfl) ?_
    | refine c_pick (d_boxW rfl rfl rfl (by first | rfl | (simp only [cellsD]; rfl))) ?_
    | refine c_pick (d_cmpBool rfl rfl rfl (by kernel_rfl) rfl) ?_
    | refine c_pick (d_nilD rfl rfl) ?_
    | refine c_pick (d_cmpNil rfl rfl rfl (by kernel_rfl) (by first | exact NilIs.ptr | exact NilIs.none | exact NilIs.nilI | assumption) rfl) ?_
    | refine c_pick (d_not rfl rfl) ?_
    | refine c_pick (d_loadD rfl rfl (by first | rfl | (simp only [cellsD]; rfl))) ?_
    | refine c_passU rfl rfl ?_
    | refine c_passT rfl (by first | rfl | assumption) rfl ?_
    | refine c_passF rfl (by first | rfl | assumption) rfl ?_
    | refine c_pickY rfl (by first | rfl | assumption) (d_assignD rfl rfl) ?_
    | refine c_pickY rfl (by first | rfl | assumption) (d_moveD rfl rfl) ?_
    | refine c_pickY rfl (by first | rfl | assumption) (d_fieldAddrB rfl rfl rfl) ?_
    | refine c_pickY rfl (by first | rfl | assumption) (d_loadW rfl rfl rfl (by first | rfl | (simp only [cellsD]; rfl))) ?_
    | refine c_pickY rfl (by first | rfl | assumption) (d_loadBD rfl rfl rfl (by first | rfl | (simp only [cellsD]; rfl))) ?_
    | refine c_pickY rfl (by first | rfl | assumption) (d_bin2B rfl rfl rfl rfl) ?_
    | refine c_pickY rfl (by first | rfl | assumption) (d_boxW rfl rfl rfl (by first | rfl | (simp only [cellsD]; rfl))) ?_
    | refine c_pickY rfl (by first | rfl | assumption) (d_cmpBool rfl rfl rfl (by kernel_rfl) rfl) ?_
    | refine c_pickY rfl (by first | rfl | assumption) (d_nilD rfl rfl) ?_
    | refine c_pickY rfl (by first | rfl | assumption) (d_cmpNil rfl rfl rfl (by kernel_rfl) (by first | exact NilIs.ptr | exact NilIs.none | exact NilIs.nilI | assumption) rfl) ?_
    | refine c_pickY rfl (by first | rfl | assumption) (d_not rfl rfl) ?_
    | refine c_pickY rfl (by first | rfl | assumption) (d_loadD rfl rfl (by first | rfl | (simp only [cellsD]; rfl))) ?_
    | refine c_pickD rfl (by assumption) (d_assignD rfl rfl) ?_
    | refine c_pickD rfl (by assumption) (d_moveD rfl rfl) ?_
    | refine c_pickD rfl (by assumption) (d_fieldAddrB rfl rfl rfl) ?_
    | refine c_pickD rfl (by assumption) (d_loadW rfl rfl rfl (by first | rfl | (simp only [cellsD]; rfl))) ?_
    | refine c_pickD rfl (by assumption) (d_loadBD rfl rfl rfl (by first | rfl | (simp only [cellsD]; rfl))) ?_
    | refine c_pickD rfl (by assumption) (d_bin2B rfl rfl rfl rfl) ?_
    | refine c_pickD rfl (by assumption) (d_boxW rfl rfl rfl (by first | rfl | (simp only [cellsD]; rfl))) ?_
    | refine c_pickD rfl (by assumption) (d_cmpBool rfl rfl rfl (by kernel_rfl) rfl) ?_
    | refine c_pickD rfl (by assumption) (d_nilD rfl rfl) ?_
    | refine c_pickD rfl (by assumption) (d_cmpNil rfl rfl rfl (by kernel_rfl) (by first | exact NilIs.ptr | exact NilIs.none | exact NilIs.nilI | assumption) rfl) ?_
    | refine c_pickD rfl (by assumption) (d_not rfl rfl) ?_
    | refine c_pickD rfl (by assumption) (d_loadD rfl rfl (by first | rfl | (simp only [cellsD]; rfl))) ?_
    | refine c_splitT rfl rfl (fun h => ?_) (fun h => ?_)
    | refine c_splitF rfl rfl (fun h => ?_) (fun h => ?_)
    | fail)
      all_goals exact PLe.refl _
    | _ =>
      refine pcall_of_run Try.func72 rfl Try.ntmps72 rfl (fun X => ?_)
      unfold dvPE
      repeat' (first
    | refine run_seq ?_
    | (refine k_pick rfl ?_; first
      | refine k_assignD rfl rfl ?_
      | refine k_moveD rfl rfl ?_
      | refine k_fieldAddrB rfl rfl rfl ?_
      | refine k_loadW rfl rfl rfl (by first | rfl | (simp only [cellsD]; rfl)) ?_
      | refine k_loadBD rfl rfl rfl (by first | rfl | (simp only [cellsD]; rfl)) ?_
      | refine k_bin2B rfl rfl rfl rfl ?_
      | refine k_boxW rfl rfl rfl (by first | rfl | (simp only [cellsD]; rfl)) ?_
      | refine k_cmpBool rfl rfl rfl (by kernel_rfl) rfl ?_
      | refine k_nilD rfl rfl ?_
      | refine k_cmpNil rfl rfl rfl (by kernel_rfl) (by first | exact NilIs.ptr | exact NilIs.none | exact NilIs.nilI | assumption) rfl ?_
      | refine k_not rfl rfl ?_
      | refine k_loadD rfl rfl (by first | rfl | (simp only [cellsD]; rfl)) ?_)
    | refine run_opsEnd ?_
    | refine run_region ?_
    | refine run_condT rfl (by first | rfl | assumption) ?_
    | refine run_condF rfl (by first | rfl | assumption) ?_
    | refine run_cond rfl (fun h => ?_) (fun h => ?_)
    | (refine k_guardY rfl rfl (by first | rfl | assumption) ?_; first
      | refine k_assignD rfl rfl ?_
      | refine k_moveD rfl rfl ?_
      | refine k_fieldAddrB rfl rfl rfl ?_
      | refine k_loadW rfl rfl rfl (by first | rfl | (simp only [cellsD]; rfl)) ?_
      | refine k_loadBD rfl rfl rfl (by first | rfl | (simp only [cellsD]; rfl)) ?_
      | refine k_bin2B rfl rfl rfl rfl ?_
      | refine k_boxW rfl rfl rfl (by first | rfl | (simp only [cellsD]; rfl)) ?_
      | refine k_cmpBool rfl rfl rfl (by kernel_rfl) rfl ?_
      | refine k_nilD rfl rfl ?_
      | refine k_cmpNil rfl rfl rfl (by kernel_rfl) (by first | exact NilIs.ptr | exact NilIs.none | exact NilIs.nilI | assumption) rfl ?_
      | refine k_not rfl rfl ?_
      | refine k_loadD rfl rfl (by first | rfl | (simp only [cellsD]; rfl)) ?_)
    | refine k_guardU rfl rfl rfl ?_
    | refine k_guardNT rfl rfl (by first | rfl | assumption) rfl ?_
    | refine k_guardNF rfl rfl (by first | rfl | assumption) rfl ?_
    | refine k_guardT rfl rfl rfl (fun h => ?_) (fun h => ?_)
    | refine k_guardF rfl rfl rfl (fun h => ?_) (fun h => ?_)
    | refine run_block ?_
    | refine run_blkEnd ?_
    | refine run_skip ?_
    | refine run_exit rfl ?_
    | refine run_retOk (resOk_tmp rfl rfl ?_)
    | refine run_retOk (resOk_tmp2 rfl rfl rfl ?_ ?_)
    | refine run_retOk (resOk_cell rfl rfl rfl (by first | rfl | (simp only [cellsD]; rfl)) ?_)
    | refine run_retOk (resOk_cellTmp rfl rfl rfl (by first | rfl | (simp only [cellsD]; rfl)) rfl ?_ ?_)
    | (first
      | refine k_assignD rfl rfl ?_
      | refine k_moveD rfl rfl ?_
      | refine k_fieldAddrB rfl rfl rfl ?_
      | refine k_loadW rfl rfl rfl (by first | rfl | (simp only [cellsD]; rfl)) ?_
      | refine k_loadBD rfl rfl rfl (by first | rfl | (simp only [cellsD]; rfl)) ?_
      | refine k_bin2B rfl rfl rfl rfl ?_
      | refine k_boxW rfl rfl rfl (by first | rfl | (simp only [cellsD]; rfl)) ?_
      | refine k_cmpBool rfl rfl rfl (by kernel_rfl) rfl ?_
      | refine k_nilD rfl rfl ?_
      | refine k_cmpNil rfl rfl rfl (by kernel_rfl) (by first | exact NilIs.ptr | exact NilIs.none | exact NilIs.nilI | assumption) rfl ?_
      | refine k_not rfl rfl ?_
      | refine k_loadD rfl rfl (by first | rfl | (simp only [cellsD]; rfl)) ?_)
    | refine run_drawC (by kernel_rfl) ?_
    | refine c_nil (And.intro (by kernel_rfl) ?_)
    | refine c_pick (d_assignD rfl rfl) ?_
    | refine c_pick (d_moveD rfl rfl) ?_
    | refine c_pick (d_fieldAddrB rfl rfl rfl) ?_
    | refine c_pick (d_loadW rfl rfl rfl (by first | rfl | (simp only [cellsD]; rfl))) ?_
    | refine c_pick (d_loadBD rfl rfl rfl (by first | rfl | (simp only [cellsD]; rfl))) ?_
    | refine c_pick (d_bin2B rfl rfl rfl rfl) ?_
    | refine c_pick (d_boxW rfl rfl rfl (by first | rfl | (simp only [cellsD]; rfl))) ?_
    | refine c_pick (d_cmpBool rfl rfl rfl (by kernel_rfl) rfl) ?_
    | refine c_pick (d_nilD rfl rfl) ?_
    | refine c_pick (d_cmpNil rfl rfl rfl (by kernel_rfl) (by first | exact NilIs.ptr | exact NilIs.none | exact NilIs.nilI | assumption) rfl) ?_
    | refine c_pick (d_not rfl rfl) ?_
    | refine c_pick (d_loadD rfl rfl (by first | rfl | (simp only [cellsD]; rfl))) ?_
    | refine c_passU rfl rfl ?_
    | refine c_passT rfl (by first | rfl | assumption) rfl ?_
    | refine c_passF rfl (by first | rfl | assumption) rfl ?_
    | refine c_pickY rfl (by first | rfl | assumption) (d_assignD rfl rfl) ?_
    | refine c_pickY rfl (by first | rfl | assumption) (d_moveD rfl rfl) ?_
    | refine c_pickY rfl (by first | rfl | assumption) (d_fieldAddrB rfl rfl rfl) ?_
    | refine c_pickY rfl (by first | rfl | assumption) (d_loadW rfl rfl rfl (by first | rfl | (simp only [cellsD]; rfl))) ?_
    | refine c_pickY rfl (by first | rfl | assumption) (d_loadBD rfl rfl rfl (by first | rfl | (simp only [cellsD]; rfl))) ?_
    | refine c_pickY rfl (by first | rfl | assumption) (d_bin2B rfl rfl rfl rfl) ?_
    | refine c_pickY rfl (by first | rfl | assumption) (d_boxW rfl rfl rfl (by first | rfl | (simp only [cellsD]; rfl))) ?_
    | refine c_pickY rfl (by first | rfl | assumption) (d_cmpBool rfl rfl rfl (by kernel_rfl) rfl) ?_
    | refine c_pickY rfl (by first | rfl | assumption) (d_nilD rfl rfl) ?_
    | refine c_pickY rfl (by first | rfl | assumption) (d_cmpNil rfl rfl rfl (by kernel_rfl) (by first | exact NilIs.ptr | exact NilIs.none | exact NilIs.nilI | assumption) rfl) ?_
    | refine c_pickY rfl (by first | rfl | assumption) (d_not rfl rfl) ?_
    | refine c_pickY rfl (by first | rfl | assumption) (d_loadD rfl rfl (by first | rfl | (simp only [cellsD]; rfl))) ?_
    | refine c_pickD rfl (by assumption) (d_assignD rfl rfl) ?_
    | refine c_pickD rfl (by assumption) (d_moveD rfl rfl) ?_
    | refine c_pickD rfl (by assumption) (d_fieldAddrB rfl rfl rfl) ?_
    | refine c_pickD rfl (by assumption) (d_loadW rfl rfl rfl (by first | rfl | (simp only [cellsD]; rfl))) ?_
    | refine c_pickD rfl (by assumption) (d_loadBD rfl rfl rfl (by first | rfl | (simp only [cellsD]; rfl))) ?_
    | refine c_pickD rfl (by assumption) (d_bin2B rfl rfl rfl rfl) ?_
    | refine c_pickD rfl (by assumption) (d_boxW rfl rfl rfl (by first | rfl | (simp only [cellsD]; rfl))) ?_
    | refine c_pickD rfl (by assumption) (d_cmpBool rfl rfl rfl (by kernel_rfl) rfl) ?_
    | refine c_pickD rfl (by assumption) (d_nilD rfl rfl) ?_
    | refine c_pickD rfl (by assumption) (d_cmpNil rfl rfl rfl (by kernel_rfl) (by first | exact NilIs.ptr | exact NilIs.none | exact NilIs.nilI | assumption) rfl) ?_
    | refine c_pickD rfl (by assumption) (d_not rfl rfl) ?_
    | refine c_pickD rfl (by assumption) (d_loadD rfl rfl (by first | rfl | (simp only [cellsD]; rfl))) ?_
    | refine c_splitT rfl rfl (fun h => ?_) (fun h => ?_)
    | refine c_splitF rfl rfl (fun h => ?_) (fun h => ?_)
    | fail)
      all_goals exact PLe.refl _
theorem peLess_p (p q : PEV) : PCall Try.prog 71 [dvPE p, dvPE q] (.val (.bool (decide (cmpPE p q < 0)))) := by
  have c1 := peCompare_p p q
  generalize cmpPE p q = c at *
  refine pcall_of_run Try.func71 rfl Try.ntmps71 rfl (fun X => ?_)
  cases p <;> cases q
  all_goals
    unfold dvPE at *
    repeat' (first
    | refine run_seq ?_
    | (refine k_pick rfl ?_; first
      | refine k_assignD rfl rfl ?_
      | refine k_moveD rfl rfl ?_
      | refine k_fieldAddrB rfl rfl rfl ?_
      | refine k_loadW rfl rfl rfl (by first | rfl | (simp only [cellsD]; rfl)) ?_
      | refine k_loadBD rfl rfl rfl (by first | rfl | (simp only [cellsD]; rfl)) ?_
      | refine k_bin2B rfl rfl rfl rfl ?_
      | refine k_boxW rfl rfl rfl (by first | rfl | (simp only [cellsD]; rfl)) ?_
      | refine k_call rfl (by kernel_rfl) rfl (by first | exact c1) ?_
      | refine k_cmpBool rfl rfl rfl (by kernel_rfl) rfl ?_
      | refine k_nilD rfl rfl ?_
      | refine k_cmpNil rfl rfl rfl (by kernel_rfl) (by first | exact NilIs.ptr | exact NilIs.none | exact NilIs.nilI | assumption) rfl ?_
      | refine k_not rfl rfl ?_
      | refine k_loadD rfl rfl (by first | rfl | (simp only [cellsD]; rfl)) ?_)
    | refine run_opsEnd ?_
    | refine run_region ?_
    | refine run_condT rfl (by first | rfl | assumption) ?_
    | refine run_condF rfl (by first | rfl | assumption) ?_
    | refine run_cond rfl (fun h => ?_) (fun h => ?_)
    | (refine k_guardY rfl rfl (by first | rfl | assumption) ?_; first
      | refine k_assignD rfl rfl ?_
      | refine k_moveD rfl rfl ?_
      | refine k_fieldAddrB rfl rfl rfl ?_
      | refine k_loadW rfl rfl rfl (by first | rfl | (simp only [cellsD]; rfl)) ?_
      | refine k_loadBD rfl rfl rfl (by first | rfl | (simp only [cellsD]; rfl)) ?_
      | refine k_bin2B rfl rfl rfl rfl ?_
      | refine k_boxW rfl rfl rfl (by first | rfl | (simp only [cellsD]; rfl)) ?_
      | refine k_call rfl (by kernel_rfl) rfl (by first | exact c1) ?_
      | refine k_cmpBool rfl rfl rfl (by kernel_rfl) rfl ?_
      | refine k_nilD rfl rfl ?_
      | refine k_cmpNil rfl rfl rfl (by kernel_rfl) (by first | exact NilIs.ptr | exact NilIs.none | exact NilIs.nilI | assumption) rfl ?_
      | refine k_not rfl rfl ?_
      | refine k_loadD rfl rfl (by first | rfl | (simp only [cellsD]; rfl)) ?_)
    | refine k_guardU rfl rfl rfl ?_
    | refine k_guardNT rfl rfl (by first | rfl | assumption) rfl ?_
    | refine k_guardNF rfl rfl (by first | rfl | assumption) rfl ?_
    | refine k_guardT rfl rfl rfl (fun h => ?_) (fun h => ?_)
    | refine k_guardF rfl rfl rfl (fun h => ?_) (fun h => ?_)
    | refine run_block ?_
    | refine run_blkEnd ?_
    | refine run_skip ?_
    | refine run_exit rfl ?_
    | refine run_retOk (resOk_tmp rfl rfl ?_)
    | refine run_retOk (resOk_tmp2 rfl rfl rfl ?_ ?_)
    | refine run_retOk (resOk_cell rfl rfl rfl (by first | rfl | (simp only [cellsD]; rfl)) ?_)
    | refine run_retOk (resOk_cellTmp rfl rfl rfl (by first | rfl | (simp only [cellsD]; rfl)) rfl ?_ ?_)
    | (first
      | refine k_assignD rfl rfl ?_
      | refine k_moveD rfl rfl ?_
      | refine k_fieldAddrB rfl rfl rfl ?_
      | refine k_loadW rfl rfl rfl (by first | rfl | (simp only [cellsD]; rfl)) ?_
      | refine k_loadBD rfl rfl rfl (by first | rfl | (simp only [cellsD]; rfl)) ?_
      | refine k_bin2B rfl rfl rfl rfl ?_
      | refine k_boxW rfl rfl rfl (by first | rfl | (simp only [cellsD]; rfl)) ?_
      | refine k_call rfl (by kernel_rfl) rfl (by first | exact c1) ?_
      | refine k_cmpBool rfl rfl rfl (by kernel_rfl) rfl ?_
      | refine k_nilD rfl rfl ?_
      | refine k_cmpNil rfl rfl rfl (by kernel_rfl) (by first | exact NilIs.ptr | exact NilIs.none | exact NilIs.nilI | assumption) rfl ?_
      | refine k_not rfl rfl ?_
      | refine k_loadD rfl rfl (by first | rfl | (simp only [cellsD]; rfl)) ?_)
    | refine run_drawC (by kernel_rfl) ?_
    | refine c_nil (And.intro (by kernel_rfl) ?_)
    | refine c_pick (d_assignD rfl rfl) ?_
    | refine c_pick (d_moveD rfl rfl) ?_
    | refine c_pick (d_fieldAddrB rfl rfl rfl) ?_
    | refine c_pick (d_loadW rfl rfl rfl (by first | rfl | (simp only [cellsD]; rfl))) ?_
    | refine c_pick (d_loadBD rfl rfl rfl (by first | rfl | (simp only [cellsD]; rfl))) ?_
    | refine c_pick (d_bin2B rfl rfl rfl rfl) ?_
    | refine c_pick (d_boxW rfl rfl rfl (by first | rfl | (simp only [cellsD]; rfl))) ?_
    | refine c_pick (d_call rfl (by kernel_rfl) rfl (by first | exact c1)) ?_
    | refine c_pick (d_cmpBool rfl rfl rfl (by kernel_rfl) rfl) ?_
    | refine c_pick (d_nilD rfl rfl) ?_
    | refine c_pick (d_cmpNil rfl rfl rfl (by kernel_rfl) (by first | exact NilIs.ptr | exact NilIs.none | exact NilIs.nilI | assumption) rfl) ?_
    | refine c_pick (d_not rfl rfl) ?_
    | refine c_pick (d_loadD rfl rfl (by first | rfl | (simp only [cellsD]; rfl))) ?_
    | refine c_passU rfl rfl ?_
    | refine c_passT rfl (by first | rfl | assumption) rfl ?_
    | refine c_passF rfl (by first | rfl | assumption) rfl ?_
    | refine c_pickY rfl (by first | rfl | assumption) (d_assignD rfl rfl) ?_
    | refine c_pickY rfl (by first | rfl | assumption) (d_moveD rfl rfl) ?_
    | refine c_pickY rfl (by first | rfl | assumption) (d_fieldAddrB rfl rfl rfl) ?_
    | refine c_pickY rfl (by first | rfl | assumption) (d_loadW rfl rfl rfl (by first | rfl | (simp only [cellsD]; rfl))) ?_
    | refine c_pickY rfl (by first | rfl | assumption) (d_loadBD rfl rfl rfl (by first | rfl | (simp only [cellsD]; rfl))) ?_
    | refine c_pickY rfl (by first | rfl | assumption) (d_bin2B rfl rfl rfl rfl) ?_
    | refine c_pickY rfl (by first | rfl | assumption) (d_boxW rfl rfl rfl (by first | rfl | (simp only [cellsD]; rfl))) ?_
    | refine c_pickY rfl (by first | rfl | assumption) (d_call rfl (by kernel_rfl) rfl (by first | exact c1)) ?_
    | refine c_pickY rfl (by first | rfl | assumption) (d_cmpBool rfl rfl rfl (by kernel_rfl) rfl) ?_
    | refine c_pickY rfl (by first | rfl | assumption) (d_nilD rfl rfl) ?_
    | refine c_pickY rfl (by first | rfl | assumption) (d_cmpNil rfl rfl rfl (by kernel_rfl) (by first | exact NilIs.ptr | exact NilIs.none | exact NilIs.nilI | assumption) rfl) ?_
    | refine c_pickY rfl (by first | rfl | assumption) (d_not rfl rfl) ?_
    | refine c_pickY rfl (by first | rfl | assumption) (d_loadD rfl rfl (by first | rfl | (simp only [cellsD]; rfl))) ?_
    | refine c_pickD rfl (by assumption) (d_assignD rfl rfl) ?_
    | refine c_pickD rfl (by assumption) (d_moveD rfl rfl) ?_
    | refine c_pickD rfl (by assumption) (d_fieldAddrB rfl rfl rfl) ?_
    | refine c_pickD rfl (by assumption) (d_loadW rfl rfl rfl (by first | rfl | (simp only [cellsD]; rfl))) ?_
    | refine c_pickD rfl (by assumption) (d_loadBD rfl rfl rfl (by first | rfl | (simp only [cellsD]; rfl))) ?_
    | refine c_pickD rfl (by assumption) (d_bin2B rfl rfl rfl rfl) ?_
    | refine c_pickD rfl (by assumption) (d_boxW rfl rfl rfl (by first | rfl | (simp only [cellsD]; rfl))) ?_
    | refine c_pickD rfl (by assumption) (d_call rfl (by kernel_rfl) rfl (by first | exact c1)) ?_
    | refine c_pickD rfl (by assumption) (d_cmpBool rfl rfl rfl (by kernel_rfl) rfl) ?_
    | refine c_pickD rfl (by assumption) (d_nilD rfl rfl) ?_
    | refine c_pickD rfl (by assumption) (d_cmpNil rfl rfl rfl (by kernel_rfl) (by first | exact NilIs.ptr | exact NilIs.none | exact NilIs.nilI | assumption) rfl) ?_
    | refine c_pickD rfl (by assumption) (d_not rfl rfl) ?_
    | refine c_pickD rfl (by assumption) (d_loadD rfl rfl (by first | rfl | (simp only [cellsD]; rfl))) ?_
    | refine c_splitT rfl rfl (fun h => ?_) (fun h => ?_)
    | refine c_splitF rfl rfl (fun h => ?_) (fun h => ?_)
    | fail)
  all_goals exact PLe.refl _
theorem implCmpE_p (x y : EV) : PCall Try.prog 37 [pdE x, pdE y] (.val (.int .i64 (cmpPE (toPE x) (toPE y)))) := by
  have c1 := toElem_v x
  have c2 := toElem_v y
  have c3 := peCompare_p (toPE x) (toPE y)
  generalize cmpPE (toPE x) (toPE y) = c at *
  generalize dvPE (toPE x) = dp at *
  generalize dvPE (toPE y) = dq at *
  unfold pdE at *
  refine pcall_of_run Try.func37 rfl Try.ntmps37 rfl (fun X => ?_)
  repeat' (first
    | refine run_seq ?_
    | (refine k_pick rfl ?_; first
      | refine k_assignD rfl rfl ?_
      | refine k_moveD rfl rfl ?_
      | refine k_fieldAddrB rfl rfl rfl ?_
      | refine k_loadW rfl rfl rfl (by first | rfl | (simp only [cellsD]; rfl)) ?_
      | refine k_loadBD rfl rfl rfl (by first | rfl | (simp only [cellsD]; rfl)) ?_
      | refine k_bin2B rfl rfl rfl rfl ?_
      | refine k_boxW rfl rfl rfl (by first | rfl | (simp only [cellsD]; rfl)) ?_
      | refine k_call rfl (by kernel_rfl) rfl (by first | exact c1 | exact c2 | exact c3) ?_
      | refine k_cmpBool rfl rfl rfl (by kernel_rfl) rfl ?_
      | refine k_nilD rfl rfl ?_
      | refine k_cmpNil rfl rfl rfl (by kernel_rfl) (by first | exact NilIs.ptr | exact NilIs.none | exact NilIs.nilI | assumption) rfl ?_
      | refine k_not rfl rfl ?_
      | refine k_loadD rfl rfl (by first | rfl | (simp only [cellsD]; rfl)) ?_)
    | refine run_opsEnd ?_
    | refine run_region ?_
    | refine run_condT rfl (by first | rfl | assumption) ?_
    | refine run_condF rfl (by first | rfl | assumption) ?_
    | refine run_cond rfl (fun h => ?_) (fun h => ?_)
    | (refine k_guardY rfl rfl (by first | rfl | assumption) ?_; first
      | refine k_assignD rfl rfl ?_
      | refine k_moveD rfl rfl ?_
      | refine k_fieldAddrB rfl rfl rfl ?_
      | refine k_loadW rfl rfl rfl (by first | rfl | (simp only [cellsD]; rfl)) ?_
      | refine k_loadBD rfl rfl rfl (by first | rfl | (simp only [cellsD]; rfl)) ?_
      | refine k_bin2B rfl rfl rfl rfl ?_
      | refine k_boxW rfl rfl rfl (by first | rfl | (simp only [cellsD]; rfl)) ?_
      | refine k_call rfl (by kernel_rfl) rfl (by first | exact c1 | exact c2 | exact c3) ?_
      | refine k_cmpBool rfl rfl rfl (by kernel_rfl) rfl ?_
      | refine k_nilD rfl rfl ?_
      | refine k_cmpNil rfl rfl rfl (by kernel_rfl) (by first | exact NilIs.ptr | exact NilIs.none | exact NilIs.nilI | assumption) rfl ?_
      | refine k_not rfl rfl ?_
      | refine k_loadD rfl rfl (by first | rfl | (simp only [cellsD]; rfl)) ?_)
    | refine k_guardU rfl rfl rfl ?_
    | refine k_guardNT rfl rfl (by first | rfl | assumption) rfl ?_
    | refine k_guardNF rfl rfl (by first | rfl | assumption) rfl ?_
    | refine k_guardT rfl rfl rfl (fun h => ?_) (fun h => ?_)
    | refine k_guardF rfl rfl rfl (fun h => ?_) (fun h => ?_)
    | refine run_block ?_
    | refine run_blkEnd ?_
    | refine run_skip ?_
    | refine run_exit rfl ?_
    | refine run_retOk (resOk_tmp rfl rfl ?_)
    | refine run_retOk (resOk_tmp2 rfl rfl rfl ?_ ?_)
    | refine run_retOk (resOk_cell rfl rfl rfl (by first | rfl | (simp only [cellsD]; rfl)) ?_)
    | refine run_retOk (resOk_cellTmp rfl rfl rfl (by first | rfl | (simp only [cellsD]; rfl)) rfl ?_ ?_)
    | (first
      | refine k_assignD rfl rfl ?_
      | refine k_moveD rfl rfl ?_
      | refine k_fieldAddrB rfl rfl rfl ?_
      | refine k_loadW rfl rfl rfl (by first | rfl | (simp only [cellsD]; rfl)) ?_
      | refine k_loadBD rfl rfl rfl (by first | rfl | (simp only [cellsD]; rfl)) ?_
      | refine k_bin2B rfl rfl rfl rfl ?_
      | refine k_boxW rfl rfl rfl (by first | rfl | (simp only [cellsD]; rfl)) ?_
      | refine k_call rfl (by kernel_rfl) rfl (by first | exact c1 | exact c2 | exact c3) ?_
      | refine k_cmpBool rfl rfl rfl (by kernel_rfl) rfl ?_
      | refine k_nilD rfl rfl ?_
      | refine k_cmpNil rfl rfl rfl (by kernel_rfl) (by first | exact NilIs.ptr | exact NilIs.none | exact NilIs.nilI | assumption) rfl ?_
      | refine k_not rfl rfl ?_
      | refine k_loadD rfl rfl (by first | rfl | (simp only [cellsD]; rfl)) ?_)
    | refine run_drawC (by kernel_rfl) ?_
    | refine c_nil (And.intro (by kernel_rfl) ?_)
    | refine c_pick (d_assignD rfl rfl) ?_
    | refine c_pick (d_moveD rfl rfl) ?_
    | refine c_pick (d_fieldAddrB rfl rfl rfl) ?_
    | refine c_pick (d_loadW rfl rfl rfl (by first | rfl | (simp only [cellsD]; rfl))) ?_
    | refine c_pick (d_loadBD rfl rfl rfl (by first | rfl | (simp only [cellsD]; rfl))) ?_
    | refine c_pick (d_bin2B rfl rfl rfl rfl) ?_
    | refine c_pick (d_boxW rfl rfl rfl (by first | rfl | (simp only [cellsD]; rfl))) ?_
    | refine c_pick (d_call rfl (by kernel_rfl) rfl (by first | exact c1 | exact c2 | exact c3)) ?_
    | refine c_pick (d_cmpBool rfl rfl rfl (by kernel_rfl) rfl) ?_
    | refine c_pick (d_nilD rfl rfl) ?_
    | refine c_pick (d_cmpNil rfl rfl rfl (by kernel_rfl) (by first | exact NilIs.ptr | exact NilIs.none | exact NilIs.nilI | assumption) rfl) ?_
    | refine c_pick (d_not rfl rfl) ?_
    | refine c_pick (d_loadD rfl rfl (by first | rfl | (simp only [cellsD]; rfl))) ?_
    | refine c_passU rfl rfl ?_
    | refine c_passT rfl (by first | rfl | assumption) rfl ?_
    | refine c_passF rfl (by first | rfl | assumption) rfl ?_
    | refine c_pickY rfl (by first | rfl | assumption) (d_assignD rfl rfl) ?_
    | refine c_pickY rfl (by first | rfl | assumption) (d_moveD rfl rfl) ?_
    | refine c_pickY rfl (by first | rfl | assumption) (d_fieldAddrB rfl rfl rfl) ?_
    | refine c_pickY rfl (by first | rfl | assumption) (d_loadW rfl rfl rfl (by first | rfl | (simp only [cellsD]; rfl))) ?_
    | refine c_pickY rfl (by first | rfl | assumption) (d_loadBD rfl rfl rfl (by first | rfl | (simp only [cellsD]; rfl))) ?_
    | refine c_pickY rfl (by first | rfl | assumption) (d_bin2B rfl rfl rfl rfl) ?_
    | refine c_pickY rfl (by first | rfl | assumption) (d_boxW rfl rfl rfl (by first | rfl | (simp only [cellsD]; rfl))) ?_
    | refine c_pickY rfl (by first | rfl | assumption) (d_call rfl (by kernel_rfl) rfl (by first | exact c1 | exact c2 | exact c3)) ?_
    | refine c_pickY rfl (by first | rfl | assumption) (d_cmpBool rfl rfl rfl (by kernel_rfl) rfl) ?_
    | refine c_pickY rfl (by first | rfl | assumption) (d_nilD rfl rfl) ?_
    | refine c_pickY rfl (by first | rfl | assumption) (d_cmpNil rfl rfl rfl (by kernel_rfl) (by first | exact NilIs.ptr | exact NilIs.none | exact NilIs.nilI | assumption) rfl) ?_
    | refine c_pickY rfl (by first | rfl | assumption) (d_not rfl rfl) ?_
    | refine c_pickY rfl (by first | rfl | assumption) (d_loadD rfl rfl (by first | rfl | (simp only [cellsD]; rfl))) ?_
    | refine c_pickD rfl (by assumption) (d_assignD rfl rfl) ?_
    | refine c_pickD rfl (by assumption) (d_moveD rfl rfl) ?_
    | refine c_pickD rfl (by assumption) (d_fieldAddrB rfl rfl rfl) ?_
    | refine c_pickD rfl (by assumption) (d_loadW rfl rfl rfl (by first | rfl | (simp only [cellsD]; rfl))) ?_
    | refine c_pickD rfl (by assumption) (d_loadBD rfl rfl rfl (by first | rfl | (simp only [cellsD]; rfl))) ?_
    | refine c_pickD rfl (by assumption) (d_bin2B rfl rfl rfl rfl) ?_
    | refine c_pickD rfl (by assumption) (d_boxW rfl rfl rfl (by first | rfl | (simp only [cellsD]; rfl))) ?_
    | refine c_pickD rfl (by assumption) (d_call rfl (by kernel_rfl) rfl (by first | exact c1 | exact c2 | exact c3)) ?_
    | refine c_pickD rfl (by assumption) (d_cmpBool rfl rfl rfl (by kernel_rfl) rfl) ?_
    | refine c_pickD rfl (by assumption) (d_nilD rfl rfl) ?_
    | refine c_pickD rfl (by assumption) (d_cmpNil rfl rfl rfl (by kernel_rfl) (by first | exact NilIs.ptr | exact NilIs.none | exact NilIs.nilI | assumption) rfl) ?_
    | refine c_pickD rfl (by assumption) (d_not rfl rfl) ?_
    | refine c_pickD rfl (by assumption) (d_loadD rfl rfl (by first | rfl | (simp only [cellsD]; rfl))) ?_
    | refine c_splitT rfl rfl (fun h => ?_) (fun h => ?_)
    | refine c_splitF rfl rfl (fun h => ?_) (fun h => ?_)
    | fail)
  all_goals exact PLe.refl _
theorem implLessE_p (x y : EV) : PCall Try.prog 39 [pdE x, pdE y] (.val (.bool (decide (cmpPE (toPE x) (toPE y) < 0)))) := by
  have c1 := toElem_v x
  have c2 := toElem_v y
  have c3 := peLess_p (toPE x) (toPE y)
  generalize cmpPE (toPE x) (toPE y) = c at *
  generalize dvPE (toPE x) = dp at *
  generalize dvPE (toPE y) = dq at *
  unfold pdE at *
  refine pcall_of_run Try.func39 rfl Try.ntmps39 rfl (fun X => ?_)
  repeat' (first
    | refine run_seq ?_
    | (refine k_pick rfl ?_; first
      | refine k_assignD rfl rfl ?_
      | refine k_moveD rfl rfl ?_
      | refine k_fieldAddrB rfl rfl rfl ?_
      | refine k_loadW rfl rfl rfl (by first | rfl | (simp only [cellsD]; rfl)) ?_
      | refine k_loadBD rfl rfl rfl (by first | rfl | (simp only [cellsD]; rfl)) ?_
      | refine k_bin2B rfl rfl rfl rfl ?_
      | refine k_boxW rfl rfl rfl (by first | rfl | (simp only [cellsD]; rfl)) ?_
      | refine k_call rfl (by kernel_rfl) rfl (by first | exact c1 | exact c2 | exact c3) ?_
      | refine k_cmpBool rfl rfl rfl (by kernel_rfl) rfl ?_
      | refine k_nilD rfl rfl ?_
      | refine k_cmpNil rfl rfl rfl (by kernel_rfl) (by first | exact NilIs.ptr | exact NilIs.none | exact NilIs.nilI | assumption) rfl ?_
      | refine k_not rfl rfl ?_
      | refine k_loadD rfl rfl (by first | rfl | (simp only [cellsD]; rfl)) ?_)
    | refine run_opsEnd ?_
    | refine run_region ?_
    | refine run_condT rfl (by first | rfl | assumption) ?_
    | refine run_condF rfl (by first | rfl | assumption) ?_
    | refine run_cond rfl (fun h => ?_) (fun h => ?_)
    | (refine k_guardY rfl rfl (by first | rfl | assumption) ?_; first
      | refine k_assignD rfl rfl ?_
      | refine k_moveD rfl rfl ?_
      | refine k_fieldAddrB rfl rfl rfl ?_
      | refine k_loadW rfl rfl rfl (by first | rfl | (simp only [cellsD]; rfl)) ?_
      | refine k_loadBD rfl rfl rfl (by first | rfl | (simp only [cellsD]; rfl)) ?_
      | refine k_bin2B rfl rfl rfl rfl ?_
      | refine k_boxW rfl rfl rfl (by first | rfl | (simp only [cellsD]; rfl)) ?_
      | refine k_call rfl (by kernel_rfl) rfl (by first | exact c1 | exact c2 | exact c3) ?_
      | refine k_cmpBool rfl rfl rfl (by kernel_rfl) rfl ?_
      | refine k_nilD rfl rfl ?_
      | refine k_cmpNil rfl rfl rfl (by kernel_rfl) (by first | exact NilIs.ptr | exact NilIs.none | exact NilIs.nilI | assumption) rfl ?_
      | refine k_not rfl rfl ?_
      | refine k_loadD rfl rfl (by first | rfl | (simp only [cellsD]; rfl)) ?_)
    | refine k_guardU rfl rfl rfl ?_
    | refine k_guardNT rfl rfl (by first | rfl | assumption) rfl ?_
    | refine k_guardNF rfl rfl (by first | rfl | assumption) rfl ?_
    | refine k_guardT rfl rfl rfl (fun h => ?_) (fun h => ?_)
    | refine k_guardF rfl rfl rfl (fun h => ?_) (fun h => ?_)
    | refine run_block ?_
    | refine run_blkEnd ?_
    | refine run_skip ?_
    | refine run_exit rfl ?_
    | refine run_retOk (resOk_tmp rfl rfl ?_)
    | refine run_retOk (resOk_tmp2 rfl rfl rfl ?_ ?_)
    | refine run_retOk (resOk_cell rfl rfl rfl (by first | rfl | (simp only [cellsD]; rfl)) ?_)
    | refine run_retOk (resOk_cellTmp rfl rfl rfl (by first | rfl | (simp only [cellsD]; rfl)) rfl ?_ ?_)
    | (first
      | refine k_assignD rfl rfl ?_
      | refine k_moveD rfl rfl ?_
      | refine k_fieldAddrB rfl rfl rfl ?_
      | refine k_loadW rfl rfl rfl (by first | rfl | (simp only [cellsD]; rfl)) ?_
      | refine k_loadBD rfl rfl rfl (by first | rfl | (simp only [cellsD]; rfl)) ?_
      | refine k_bin2B rfl rfl rfl rfl ?_
      | refine k_boxW rfl rfl rfl (by first | rfl | (simp only [cellsD]; rfl)) ?_
      | refine k_call rfl (by kernel_rfl) rfl (by first | exact c1 | exact c2 | exact c3) ?_
      | refine k_cmpBool rfl rfl rfl (by kernel_rfl) rfl ?_
      | refine k_nilD rfl rfl ?_
      | refine k_cmpNil rfl rfl rfl (by kernel_rfl) (by first | exact NilIs.ptr | exact NilIs.none | exact NilIs.nilI | assumption) rfl ?_
      | refine k_not rfl rfl ?_
      | refine k_loadD rfl rfl (by first | rfl | (simp only [cellsD]; rfl)) ?_)
    | refine run_drawC (by kernel_rfl) ?_
    | refine c_nil (And.intro (by kernel_rfl) ?_)
    | refine c_pick (d_assignD rfl rfl) ?_
    | refine c_pick (d_moveD rfl rfl) ?_
    | refine c_pick (d_fieldAddrB rfl rfl rfl) ?_
    | refine c_pick (d_loadW rfl rfl rfl (by first | rfl | (simp only [cellsD]; rfl))) ?_
    | refine c_pick (d_loadBD rfl rfl rfl (by first | rfl | (simp only [cellsD]; rfl))) ?_
    | refine c_pick (d_bin2B rfl rfl rfl rfl) ?_
    | refine c_pick (d_boxW rfl rfl rfl (by first | rfl | (simp only [cellsD]; rfl))) ?_
    | refine c_pick (d_call rfl (by kernel_rfl) rfl (by first | exact c1 | exact c2 | exact c3)) ?_
    | refine c_pick (d_cmpBool rfl rfl rfl (by kernel_rfl) rfl) ?_
    | refine c_pick (d_nilD rfl rfl) ?_
    | refine c_pick (d_cmpNil rfl rfl rfl (by kernel_rfl) (by first | exact NilIs.ptr | exact NilIs.none | exact NilIs.nilI | assumption) rfl) ?_
    | refine c_pick (d_not rfl rfl) ?_
    | refine c_pick (d_loadD rfl rfl (by first | rfl | (simp only [cellsD]; rfl))) ?_
    | refine c_passU rfl rfl ?_
    | refine c_passT rfl (by first | rfl | assumption) rfl ?_
    | refine c_passF rfl (by first | rfl | assumption) rfl ?_
    | refine c_pickY rfl (by first | rfl | assumption) (d_assignD rfl rfl) ?_
    | refine c_pickY rfl (by first | rfl | assumption) (d_moveD rfl rfl) ?_
    | refine c_pickY rfl (by first | rfl | assumption) (d_fieldAddrB rfl rfl rfl) ?_
    | refine c_pickY rfl (by first | rfl | assumption) (d_loadW rfl rfl rfl (by first | rfl | (simp only [cellsD]; rfl))) ?_
    | refine c_pickY rfl (by first | rfl | assumption) (d_loadBD rfl rfl rfl (by first | rfl | (simp only [cellsD]; rfl))) ?_
    | refine c_pickY rfl (by first | rfl | assumption) (d_bin2B rfl rfl rfl rfl) ?_
    | refine c_pickY rfl (by first | rfl | assumption) (d_boxW rfl rfl rfl (by first | rfl | (simp only [cellsD]; rfl))) ?_
    | refine c_pickY rfl (by first | rfl | assumption) (d_call rfl (by kernel_rfl) rfl (by first | exact c1 | exact c2 | exact c3)) ?_
    | refine c_pickY rfl (by first | rfl | assumption) (d_cmpBool rfl rfl rfl (by kernel_rfl) rfl) ?_
    | refine c_pickY rfl (by first | rfl | assumption) (d_nilD rfl rfl) ?_
    | refine c_pickY rfl (by first | rfl | assumption) (d_cmpNil rfl rfl rfl (by kernel_rfl) (by first | exact NilIs.ptr | exact NilIs.none | exact NilIs.nilI | assumption) rfl) ?_
    | refine c_pickY rfl (by first | rfl | assumption) (d_not rfl rfl) ?_
    | refine c_pickY rfl (by first | rfl | assumption) (d_loadD rfl rfl (by first | rfl | (simp only [cellsD]; rfl))) ?_
    | refine c_pickD rfl (by assumption) (d_assignD rfl rfl) ?_
    | refine c_pickD rfl (by assumption) (d_moveD rfl rfl) ?_
    | refine c_pickD rfl (by assumption) (d_fieldAddrB rfl rfl rfl) ?_
    | refine c_pickD rfl (by assumption) (d_loadW rfl rfl rfl (by first | rfl | (simp only [cellsD]; rfl))) ?_
    | refine c_pickD rfl (by assumption) (d_loadBD rfl rfl rfl (by first | rfl | (simp only [cellsD]; rfl))) ?_
    | refine c_pickD rfl (by assumption) (d_bin2B rfl rfl rfl rfl) ?_
    | refine c_pickD rfl (by assumption) (d_boxW rfl rfl rfl (by first | rfl | (simp only [cellsD]; rfl))) ?_
    | refine c_pickD rfl (by assumption) (d_call rfl (by kernel_rfl) rfl (by first | exact c1 | exact c2 | exact c3)) ?_
    | refine c_pickD rfl (by assumption) (d_cmpBool rfl rfl rfl (by kernel_rfl) rfl) ?_
    | refine c_pickD rfl (by assumption) (d_nilD rfl rfl) ?_
    | refine c_pickD rfl (by assumption) (d_cmpNil rfl rfl rfl (by kernel_rfl) (by first | exact NilIs.ptr | exact NilIs.none | exact NilIs.nilI | assumption) rfl) ?_
    | refine c_pickD rfl (by assumption) (d_not rfl rfl) ?_
    | refine c_pickD rfl (by assumption) (d_loadD rfl rfl (by first | rfl | (simp only [cellsD]; rfl))) ?_
    | refine c_splitT rfl rfl (fun h => ?_) (fun h => ?_)
    | refine c_splitF rfl rfl (fun h => ?_) (fun h => ?_)
    | fail)
  all_goals exact PLe.refl _
theorem implEqE_p (x y : EV) : PCall Try.prog 40 [pdE x, pdE y] (.val (.bool (eqPE (toPE x) (toPE y)))) := by
  have c1 := toElem_v x
  have c2 := toElem_v y
  have c3 := peEquals_p (toPE x) (toPE y)
  generalize eqPE (toPE x) (toPE y) = c at *
  generalize dvPE (toPE x) = dp at *
  generalize dvPE (toPE y) = dq at *
  unfold pdE at *
  refine pcall_of_run Try.func40 rfl Try.ntmps40 rfl (fun X => ?_)
  repeat' (first
    | refine run_seq ?_
    | (refine k_pick rfl ?_; first
      | refine k_assignD rfl rfl ?_
      | refine k_moveD rfl rfl ?_
      | refine k_fieldAddrB rfl rfl rfl ?_
      | refine k_loadW rfl rfl rfl (by first | rfl | (simp only [cellsD]; rfl)) ?_
      | refine k_loadBD rfl rfl rfl (by first | rfl | (simp only [cellsD]; rfl)) ?_
      | refine k_bin2B rfl rfl rfl rfl ?_
      | refine k_boxW rfl rfl rfl (by first | rfl | (simp only [cellsD]; rfl)) ?_
      | refine k_call rfl (by kernel_rfl) rfl (by first | exact c1 | exact c2 | exact c3) ?_
      | refine k_cmpBool rfl rfl rfl (by kernel_rfl) rfl ?_
      | refine k_nilD rfl rfl ?_
      | refine k_cmpNil rfl rfl rfl (by kernel_rfl) (by first | exact NilIs.ptr | exact NilIs.none | exact NilIs.nilI | assumption) rfl ?_
      | refine k_not rfl rfl ?_
      | refine k_loadD rfl rfl (by first | rfl | (simp only [cellsD]; rfl)) ?_)
    | refine run_opsEnd ?_
    | refine run_region ?_
    | refine run_condT rfl (by first | rfl | assumption) ?_
    | refine run_condF rfl (by first | rfl | assumption) ?_
    | refine run_cond rfl (fun h => ?_) (fun h => ?_)
    | (refine k_guardY rfl rfl (by first | rfl | assumption) ?_; first
      | refine k_assignD rfl rfl ?_
      | refine k_moveD rfl rfl ?_
      | refine k_fieldAddrB rfl rfl rfl ?_
      | refine k_loadW rfl rfl rfl (by first | rfl | (simp only [cellsD]; rfl)) ?_
      | refine k_loadBD rfl rfl rfl (by first | rfl | (simp only [cellsD]; rfl)) ?_
      | refine k_bin2B rfl rfl rfl rfl ?_
      | refine k_boxW rfl rfl rfl (by first | rfl | (simp only [cellsD]; rfl)) ?_
      | refine k_call rfl (by kernel_rfl) rfl (by first | exact c1 | exact c2 | exact c3) ?_
      | refine k_cmpBool rfl rfl rfl (by kernel_rfl) rfl ?_
      | refine k_nilD rfl rfl ?_
      | refine k_cmpNil rfl rfl rfl (by kernel_rfl) (by first | exact NilIs.ptr | exact NilIs.none | exact NilIs.nilI | assumption) rfl ?_
      | refine k_not rfl rfl ?_
      | refine k_loadD rfl rfl (by first | rfl | (simp only [cellsD]; rfl)) ?_)
    | refine k_guardU rfl rfl rfl ?_
    | refine k_guardNT rfl rfl (by first | rfl | assumption) rfl ?_
    | refine k_guardNF rfl rfl (by first | rfl | assumption) rfl ?_
    | refine k_guardT rfl rfl rfl (fun h => ?_) (fun h => ?_)
    | refine k_guardF rfl rfl rfl (fun h => ?_) (fun h => ?_)
    | refine run_block ?_
    | refine run_blkEnd ?_
    | refine run_skip ?_
    | refine run_exit rfl ?_
    | refine run_retOk (resOk_tmp rfl rfl ?_)
    | refine run_retOk (resOk_tmp2 rfl rfl rfl ?_ ?_)
    | refine run_retOk (resOk_cell rfl rfl rfl (by first | rfl | (simp only [cellsD]; rfl)) ?_)
    | refine run_retOk (resOk_cellTmp rfl rfl rfl (by first | rfl | (simp only [cellsD]; rfl)) rfl ?_ ?_)
    | (first
      | refine k_assignD rfl rfl ?_
      | refine k_moveD rfl rfl ?_
      | refine k_fieldAddrB rfl rfl rfl ?_
      | refine k_loadW rfl rfl rfl (by first | rfl | (simp only [cellsD]; rfl)) ?_
      | refine k_loadBD rfl rfl rfl (by first | rfl | (simp only [cellsD]; rfl)) ?_
      | refine k_bin2B rfl rfl rfl rfl ?_
      | refine k_boxW rfl rfl rfl (by first | rfl | (simp only [cellsD]; rfl)) ?_
      | refine k_call rfl (by kernel_rfl) rfl (by first | exact c1 | exact c2 | exact c3) ?_
      | refine k_cmpBool rfl rfl rfl (by kernel_rfl) rfl ?_
      | refine k_nilD rfl rfl ?_
      | refine k_cmpNil rfl rfl rfl (by kernel_rfl) (by first | exact NilIs.ptr | exact NilIs.none | exact NilIs.nilI | assumption) rfl ?_
      | refine k_not rfl rfl ?_
      | refine k_loadD rfl rfl (by first | rfl | (simp only [cellsD]; rfl)) ?_)
    | refine run_drawC (by kernel_rfl) ?_
    | refine c_nil (And.intro (by kernel_rfl) ?_)
    | refine c_pick (d_assignD rfl rfl) ?_
    | refine c_pick (d_moveD rfl rfl) ?_
    | refine c_pick (d_fieldAddrB rfl rfl rfl) ?_
    | refine c_pick (d_loadW rfl rfl rfl (by first | rfl | (simp only [cellsD]; rfl))) ?_
    | refine c_pick (d_loadBD rfl rfl rfl (by first | rfl | (simp only [cellsD]; rfl))) ?_
    | refine c_pick (d_bin2B rfl rfl rfl rfl) ?_
    | refine c_pick (d_boxW rfl rfl rfl (by first | rfl | (simp only [cellsD]; rfl))) ?_
    | refine c_pick (d_call rfl (by kernel_rfl) rfl (by first | exact c1 | exact c2 | exact c3)) ?_
    | refine c_pick (d_cmpBool rfl rfl rfl (by kernel_rfl) rfl) ?_
    | refine c_pick (d_nilD rfl rfl) ?_
    | refine c_pick (d_cmpNil rfl rfl rfl (by kernel_rfl) (by first | exact NilIs.ptr | exact NilIs.none | exact NilIs.nilI | assumption) rfl) ?_
    | refine c_pick (d_not rfl rfl) ?_
    | refine c_pick (d_loadD rfl rfl (by first | rfl | (simp only [cellsD]; rfl))) ?_
    | refine c_passU rfl rfl ?_
    | refine c_passT rfl (by first | rfl | assumption) rfl ?_
    | refine c_passF rfl (by first | rfl | assumption) rfl ?_
    | refine c_pickY rfl (by first | rfl | assumption) (d_assignD rfl rfl) ?_
    | refine c_pickY rfl (by first | rfl | assumption) (d_moveD rfl rfl) ?_
    | refine c_pickY rfl (by first | rfl | assumption) (d_fieldAddrB rfl rfl rfl) ?_
    | refine c_pickY rfl (by first | rfl | assumption) (d_loadW rfl rfl rfl (by first | rfl | (simp only [cellsD]; rfl))) ?_
    | refine c_pickY rfl (by first | rfl | assumption) (d_loadBD rfl rfl rfl (by first | rfl | (simp only [cellsD]; rfl))) ?_
    | refine c_pickY rfl (by first | rfl | assumption) (d_bin2B rfl rfl rfl rfl) ?_
    | refine c_pickY rfl (by first | rfl | assumption) (d_boxW rfl rfl rfl (by first | rfl | (simp only [cellsD]; rfl))) ?_
    | refine c_pickY rfl (by first | rfl | assumption) (d_call rfl (by kernel_rfl) rfl (by first | exact c1 | exact c2 | exact c3)) ?_
    | refine c_pickY rfl (by first | rfl | assumption) (d_cmpBool rfl rfl rfl (by kernel_rfl) rfl) ?_
    | refine c_pickY rfl (by first | rfl | assumption) (d_nilD rfl rfl) ?_
    | refine c_pickY rfl (by first | rfl | assumption) (d_cmpNil rfl rfl rfl (by kernel_rfl) (by first | exact NilIs.ptr | exact NilIs.none | exact NilIs.nilI | assumption) rfl) ?_
    | refine c_pickY rfl (by first | rfl | assumption) (d_not rfl rfl) ?_
    | refine c_pickY rfl (by first | rfl | assumption) (d_loadD rfl rfl (by first | rfl | (simp only [cellsD]; rfl))) ?_
    | refine c_pickD rfl (by assumption) (d_assignD rfl rfl) ?_
    | refine c_pickD rfl (by assumption) (d_moveD rfl rfl) ?_
    | refine c_pickD rfl (by assumption) (d_fieldAddrB rfl rfl rfl) ?_
    | refine c_pickD rfl (by assumption) (d_loadW rfl rfl rfl (by first | rfl | (simp only [cellsD]; rfl))) ?_
    | refine c_pickD rfl (by assumption) (d_loadBD rfl rfl rfl (by first | rfl | (simp only [cellsD]; rfl))) ?_
    | refine c_pickD rfl (by assumption) (d_bin2B rfl rfl rfl rfl) ?_
    | refine c_pickD rfl (by assumption) (d_boxW rfl rfl rfl (by first | rfl | (simp only [cellsD]; rfl))) ?_
    | refine c_pickD rfl (by assumption) (d_call rfl (by kernel_rfl) rfl (by first | exact c1 | exact c2 | exact c3)) ?_
    | refine c_pickD rfl (by assumption) (d_cmpBool rfl rfl rfl (by kernel_rfl) rfl) ?_
    | refine c_pickD rfl (by assumption) (d_nilD rfl rfl) ?_
    | refine c_pickD rfl (by assumption) (d_cmpNil rfl rfl rfl (by kernel_rfl) (by first | exact NilIs.ptr | exact NilIs.none | exact NilIs.nilI | assumption) rfl) ?_
    | refine c_pickD rfl (by assumption) (d_not rfl rfl) ?_
    | refine c_pickD rfl (by assumption) (d_loadD rfl rfl (by first | rfl | (simp only [cellsD]; rfl))) ?_
    | refine c_splitT rfl rfl (fun h => ?_) (fun h => ?_)
    | refine c_splitF rfl rfl (fun h => ?_) (fun h => ?_)
    | fail)
  all_goals exact PLe.refl _
end Go.Proofs.Ytbbacpdbbmjblaa
end
