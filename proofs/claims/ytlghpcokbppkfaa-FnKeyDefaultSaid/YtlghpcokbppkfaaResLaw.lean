import Derived.Test.YtlghpcokbppkfaaRes
import Derived.Test.YtlghpcokbppkfaaLawsA
/- The law FnResolveRelation answers true. -/
set_option linter.unusedVariables false
namespace Go.Proofs.Ytlghpcokbppkfaa
open Go.RowKit
set_option linter.unusedSimpArgs false
set_option maxRecDepth 10000
set_option maxHeartbeats 4000000

theorem fits_TD {l : List TD} (h : Fits (pdSch l)) : l.length * 80 ≤ 140737488351232 ∧ ∀ d ∈ l, Fits (pdA d.2) := by
  have hs := (h.aggAt 0 rfl).sl
  rw [List.length_map] at hs
  refine ⟨hs.1, fun d hd => ?_⟩
  have := hs.2.2 _ (List.mem_map_of_mem (f := pdTD) hd)
  rw [pdTD_eq] at this
  rw [pdA_eq]
  exact this.sub 1 3
theorem fits_resN {l : List TD} (h : Fits (pdSch l)) {r : TR} (hr : Fits (pdR r)) {a : TA} (e : resN l r = some a) : Fits (pdA a) := by
  unfold resN at e
  split at e
  · obtain ⟨d, hd, rfl⟩ := Option.map_eq_some_iff.1 e
    exact (fits_TD h).2 d (lastD_mem _ hd).1
  · cases e; exact fits_R hr
theorem fromAtom_e : PCall Try.prog 94 [pTA emptyA] (qA (nA emptyA)) := fromAtom_p emptyA (fun _ _ h => by cases h) (fun _ _ h => by cases h)
theorem fromAtom_set {a a' : TA} (h : Fits (pdA a)) {rel : ByteArray} (e : setRel a rel = some a') : PCall Try.prog 94 [pTA a'] (qA (nA a')) := by
  obtain ⟨sc, ls, ms⟩ := a
  have hL := fun x hx => fits_L ((fits_A h).1 x hx)
  have hM := fun x hx => fits_M ((fits_A h).2 x hx)
  cases ms with
  | cons m mr =>
    cases e
    refine fromAtom_p _ (fun x r e => ?_) (fun x r e => ?_)
    · have e : ls = x :: r := e
      exact fromRef_c _ (hL x (by show x ∈ ls; rw [e]; exact List.mem_cons_self ..))
    · cases e
      have hm := hM m (List.mem_cons_self ..)
      exact fromMapType_p (.mk m.fields m.elem rel) hm.2.1 (fromRef_c _ hm.1) (fromFields_c _ hm.2.2)
  | nil =>
    cases ls with
    | cons q lr =>
      cases e
      refine fromAtom_p _ (fun x r e => ?_) (fun x r e => by cases e)
      cases e
      exact fromRef_c _ (hL q (List.mem_cons_self ..))
    | nil => cases e
theorem implRes_p (l : List TD) (r : TR) : PCall Try.prog 44 [pdSch l, pdR r] (.tup [qA (nA ((resR l r).getD emptyA)), .val (.bool (resR l r).isSome)]) := by
  refine pcall_fits fun hfit => ?_
  have h1 := (show Fits (pdSch l) from hfit _ (by simp))
  have h2 := (show Fits (pdR r) from hfit _ (by simp))
  have cS := toSchema_p l
  have cT := toRef_c r
  have cR := resolve_p l r
  have cA : PCall Try.prog 94 [pTA ((resR l r).getD emptyA)] (qA (nA ((resR l r).getD emptyA))) := by
    cases e : resR l r with
    | none => exact fromAtom_e
    | some a' =>
      unfold resR at e
      obtain ⟨a, ha, e⟩ := Option.bind_eq_some_iff.1 e
      have hf := fits_resN h1 h2 ha
      split at e
      · cases e; exact fromAtom_c _ hf
      · exact fromAtom_set hf e
  generalize resR l r = o at *
  generalize o.getD emptyA = a at *
  rw [pdR_eq] at cT ⊢
  refine pcall_of_run Try.func44 rfl Try.ntmps44 rfl (fun X => ?_)
  repeat' (first
    | refine run_seq ?_
    | (refine k_pick rfl ?_; first | refine k_assignD rfl rfl ?_ | refine k_moveD rfl rfl ?_ | refine k_loadBD rfl rfl rfl (by first | rfl | (simp only [pdSch, cellsD]; rfl)) ?_ | refine k_boxW rfl rfl rfl (by first | rfl | (simp only [pdSch, cellsD]; rfl)) ?_ | refine k_call rfl (by kernel_rfl) rfl (by first | exact cS | (simp only [← pdSch]; exact cS) | exact cT | (simp only [← pdSch]; exact cT) | exact cR | (simp only [← pdSch]; exact cR) | exact cA | (simp only [← pdSch]; exact cA)) ?_ | refine k_storeB rfl rfl rfl rfl rfl ?_ | refine k_alloc rfl rfl ?_)
    | refine run_opsEnd ?_
    | refine run_region ?_
    | refine run_retOk (resOk_cellTmp rfl rfl rfl (by first | rfl | (simp only [pdSch, cellsD]; rfl)) rfl ?_ ?_)
    | refine run_drawC (by kernel_rfl) ?_
    | refine c_nil (And.intro (by kernel_rfl) ?_)
    | refine c_pick (d_assignD rfl rfl) ?_
    | refine c_pick (d_moveD rfl rfl) ?_
    | refine c_pick (d_loadW rfl rfl rfl (by first | rfl | (simp only [pdSch, cellsD]; rfl))) ?_
    | refine c_pick (d_call rfl (by kernel_rfl) rfl (by first | exact cS | (simp only [← pdSch]; exact cS) | exact cT | (simp only [← pdSch]; exact cT) | exact cR | (simp only [← pdSch]; exact cR) | exact cA | (simp only [← pdSch]; exact cA))) ?_
    | refine c_pick (d_extract rfl rfl rfl) ?_
    | refine c_pick (d_storeB rfl rfl rfl rfl rfl) ?_
    | refine c_pick (d_alloc rfl rfl) ?_
    | fail)
  all_goals exact PLe.refl _

/-! ### The reference -/
def firstD : List TD → ByteArray → Option TD
  | [], _ => none
  | x :: r, nm => if x.1 = nm then some x else firstD r nm
theorem firstD_take {l : List TD} {nm : ByteArray} {k : Nat} {f : TD} (h : l[k]? = some f) (hn : ∀ g ∈ l.take k, g.1 ≠ nm) : f.1 = nm → firstD l nm = some f := by
  induction l generalizing k with
  | nil => simp at h
  | cons x r ih =>
    intro e
    cases k with
    | zero => simp at h; subst h; simp [firstD, e]
    | succ k =>
      have hx : x.1 ≠ nm := hn x (by simp)
      simp only [firstD, if_neg hx]
      exact ih (by simpa using h) (fun g hg => hn g (by simp [hg])) e
theorem firstD_none {nm : ByteArray} : ∀ {l : List TD}, (∀ g ∈ l, g.1 ≠ nm) → firstD l nm = none
  | [], _ => rfl
  | x :: r, h => by simp only [firstD, if_neg (h x (List.mem_cons_self ..))]; exact firstD_none fun g hg => h g (List.mem_cons_of_mem _ hg)
theorem lastD_none {nm : ByteArray} : ∀ {l : List TD}, (∀ g ∈ l, g.1 ≠ nm) → lastD l nm = none
  | [], _ => rfl
  | x :: r, h => by
    show (match lastD r nm with | some f => some f | none => if x.1 = nm then some x else none) = _
    rw [lastD_none fun g hg => h g (List.mem_cons_of_mem _ hg)]
    exact if_neg (h x (List.mem_cons_self ..))
theorem first_last {nm : ByteArray} : ∀ {l : List TD}, (l.map (·.1)).Nodup → firstD l nm = lastD l nm
  | [], _ => rfl
  | x :: r, h => by
    rw [List.map_cons, List.nodup_cons] at h
    show (if x.1 = nm then some x else firstD r nm) = (match lastD r nm with | some f => some f | none => if x.1 = nm then some x else none)
    by_cases e : x.1 = nm
    · rw [if_pos e, lastD_none fun g hg e' => h.1 (by rw [e, ← e']; exact List.mem_map_of_mem hg)]
      simp [e]
    · rw [if_neg e, first_last h.2]
      cases lastD r nm <;> simp [e]
theorem named_p (l : List TD) (nm : ByteArray) : PCall Try.prog 91 [pdSch l, .val (.string nm)] (.tup [qA (((firstD l nm).map (·.2)).getD emptyA), .val (.bool (firstD l nm).isSome)]) := by
  refine pcall_fits fun hfit => ?_
  have hb1 := (fits_TD (show Fits (pdSch l) from hfit _ (by simp))).1
  have hlen : (l.map pdTD).length = l.length := by simp
  refine pcall_of_run Try.func91 rfl Try.ntmps91 rfl (fun X => ?_)
  repeat' (first
    | refine run_seq ?_
    | (refine k_pick rfl ?_; first | refine k_assignD rfl rfl ?_ | refine k_moveD rfl rfl ?_ | refine k_fieldAddrB rfl rfl rfl ?_ | refine k_loadBD rfl rfl rfl (by first | rfl | (simp only [pdSch, cellsD]; rfl)) ?_ | refine k_boxW rfl rfl rfl (by first | rfl | (simp only [pdSch, cellsD]; rfl)) ?_ | refine k_lenD rfl rfl ?_ | refine k_alloc rfl rfl ?_)
    | refine run_opsEnd ?_
    | refine run_region ?_
    | refine run_block ?_
    | fail)
  refine run_loopS (ι := { k : Nat // k ≤ l.length ∧ ∀ g ∈ l.take k, g.1 ≠ nm })
    (fun k => [(1, .dat (.val (.string nm))), (4, .ptr 4 0), (9, .dat (.sl 4 80 (l.map pdTD))), (10, .dat (.val (.int .i64 ((l.map pdTD).length : Nat)))), (11, .dat (.val (.int .i64 (k.1 : Nat))))])
    (fun k => [(4, .box 41 ([.val (.string ⟨#[]⟩), .val (.slice none 0 0), .val (.slice none 0 0)].map .dat))])
    (fun k => l.length - k.1) ⟨0, Nat.zero_le _, by simp⟩ id ?_ ?_
  · (refine ⟨?_, ?_, by rfl⟩ <;> repeat' (first | exact trivial | exact ALe.ptr rfl | exact ALe.own rfl | exact ALe.elt rfl | exact BLe.boxD _ _ | exact BLe.row rfl | exact BLe.res | exact ALe.dat (PLe.refl _) | exact CLe.nil | refine And.intro ?_ ?_ | refine ALe.iface ?_ | refine ALe.clo ?_ | refine CLe.cons ?_ ?_ | refine BLe.box ?_ | refine BLe.row ?_ | refine ALe.dat (PLe.of_eq ?_)))
  · rintro ⟨k, hk, hno⟩
    by_cases hlt : k < l.length
    · have hc : decide ((k : Int) < (((l.map pdTD).length : Nat) : Int)) = true := by rw [hlen]; simpa using hlt
      obtain ⟨f, hf⟩ : ∃ f, l[k]? = some f := ⟨l[k], by simp [hlt]⟩
      have hi : (l.map pdTD)[((k : Nat) : Int).toNat]? = some (pdTD f) := by simp [hf]
      by_cases hn : f.1 = nm
      · have hn' : decide (f.1 = nm) = true := by simpa using hn
        rw [firstD_take hf hno hn]
        repeat' (first
    | refine run_seq ?_
    | (refine k_pick rfl ?_; first | refine k_indexAddrD rfl rfl rfl (by first | omega | (dsimp only; omega)) (by assumption) ?_ | refine k_assignD rfl rfl ?_ | refine k_moveD rfl rfl ?_ | refine k_fieldAddrB rfl rfl rfl ?_ | refine k_loadBD rfl rfl rfl (by first | rfl | (simp only [pdTD_eq, cellsD]; rfl)) ?_ | refine k_bin2B rfl rfl rfl rfl ?_ | refine k_storeB rfl rfl rfl rfl rfl ?_ | refine k_loadD rfl rfl (by first | rfl | (simp only [pdTD_eq, cellsD]; rfl)) ?_ | refine k_alloc rfl rfl ?_)
    | refine run_opsEnd ?_
    | refine run_region ?_
    | refine run_condT rfl (by first | rfl | assumption) ?_
    | refine run_block ?_
    | refine run_skip ?_
    | refine run_retOk (resOk_cellTmp rfl rfl rfl (by first | rfl | (simp only [pdTD_eq, cellsD]; rfl)) rfl ?_ ?_)
    | fail)
        all_goals exact PLe.of_eq rfl
      · have hn' : decide (f.1 = nm) = false := by simpa using hn
        repeat' (first
    | refine run_seq ?_
    | (refine k_pick rfl ?_; first | refine k_indexAddrD rfl rfl rfl (by first | omega | (dsimp only; omega)) (by assumption) ?_ | refine k_moveD rfl rfl ?_ | refine k_fieldAddrB rfl rfl rfl ?_ | refine k_loadBD rfl rfl rfl (by first | rfl | (simp only [pdTD_eq, cellsD]; rfl)) ?_ | refine k_bin2B rfl rfl rfl rfl ?_ | refine k_storeB rfl rfl rfl rfl rfl ?_ | refine k_ariI rfl rfl rfl rfl (by first | omega | (dsimp only; omega)) ?_ | refine k_loadD rfl rfl (by first | rfl | (simp only [pdTD_eq, cellsD]; rfl)) ?_ | refine k_alloc rfl rfl ?_)
    | refine run_opsEnd ?_
    | refine run_region ?_
    | refine run_condT rfl (by first | rfl | assumption) ?_
    | refine run_condF rfl (by first | rfl | assumption) ?_
    | refine run_block ?_
    | refine run_blkEnd ?_
    | refine run_skip ?_
    | fail)
        refine run_again ?_
        refine ⟨⟨k + 1, by omega, ?_⟩, id, by simp only; omega, ?_⟩
        · intro g hg
          rw [List.take_add_one, hf] at hg
          simp only [List.mem_append, Option.toList_some, List.mem_singleton] at hg
          rcases hg with hg | rfl
          · exact hno g hg
          · exact hn
        (refine ⟨?_, ?_, by rfl⟩ <;> repeat' (first | exact trivial | exact ALe.ptr rfl | exact ALe.own rfl | exact ALe.elt rfl | exact BLe.boxD _ _ | exact BLe.row rfl | exact BLe.res | exact ALe.dat (PLe.refl _) | exact CLe.nil | refine And.intro ?_ ?_ | refine ALe.iface ?_ | refine ALe.clo ?_ | refine CLe.cons ?_ ?_ | refine BLe.box ?_ | refine BLe.row ?_ | refine ALe.dat (PLe.of_eq ?_)))
    · have hc : decide ((k : Int) < (((l.map pdTD).length : Nat) : Int)) = false := by rw [hlen]; simpa using hlt
      have e : firstD l nm = none := firstD_none (by rwa [List.take_of_length_le (by omega)] at hno)
      rw [e]
      repeat' (first
    | refine run_seq ?_
    | (refine k_pick rfl ?_; first | refine k_assignD rfl rfl ?_ | refine k_bin2B rfl rfl rfl rfl ?_ | refine k_storeB rfl rfl rfl rfl rfl ?_ | refine k_build rfl rfl rfl ?_)
    | refine run_opsEnd ?_
    | refine run_region ?_
    | refine run_condF rfl (by first | rfl | assumption) ?_
    | refine run_exit rfl ?_
    | refine run_retOk (resOk_cellTmp rfl rfl rfl (by first | rfl | (simp only [cellsD]; rfl)) rfl ?_ ?_)
    | fail)
      · refine PLe.aggs ⟨PLe.refl _, ?_, ?_, trivial⟩
        · show PLe _ (.sl 8 144 (pdLs [])); simp only [pdLs]; exact PLe.nil _ _
        · show PLe _ (.sl 8 144 (pdMs [])); simp only [pdMs]; exact PLe.nil _ _
      · exact PLe.refl _
/-- What the reference finds for a reference without a relationship. -/
def specN (l : List TD) (b : Bool) (n : ByteArray) (a : TA) : Option TA := if b then (firstD l n).map (·.2) else some a
theorem specRes_p (l : List TD) (b : Bool) (n : ByteArray) (a : TA) : PCall Try.prog 38 [pdSch l, qR (.mk b n a ⟨#[]⟩)] (.tup [qA ((specN l b n a).getD emptyA), .val (.bool (specN l b n a).isSome)]) := by
  have c := named_p l n
  cases b
  · rw [show specN l false n a = some a from rfl]
    refine pcall_of_run Try.func38 rfl Try.ntmps38 rfl (fun X => ?_)
    repeat' (first
    | refine run_seq ?_
    | (refine k_pick rfl ?_; first | refine k_assignD rfl rfl ?_ | refine k_fieldAddrB rfl rfl rfl ?_ | refine k_loadBD rfl rfl rfl (by first | rfl | (simp only [pdSch, cellsD]; rfl)) ?_ | refine k_bin2B rfl rfl rfl rfl ?_ | refine k_boxW rfl rfl rfl (by first | rfl | (simp only [pdSch, cellsD]; rfl)) ?_ | refine k_storeB rfl rfl rfl rfl rfl ?_ | refine k_alloc rfl rfl ?_)
    | refine run_opsEnd ?_
    | refine run_region ?_
    | refine run_condT rfl (by first | rfl | assumption) ?_
    | refine run_condF rfl (by first | rfl | assumption) ?_
    | refine run_skip ?_
    | refine run_retOk (resOk_cellTmp rfl rfl rfl (by first | rfl | (simp only [pdSch, cellsD]; rfl)) rfl ?_ ?_)
    | fail)
    all_goals exact PLe.of_eq rfl
  · rw [show specN l true n a = (firstD l n).map (·.2) from rfl]
    refine pcall_of_run Try.func38 rfl Try.ntmps38 rfl (fun X => ?_)
    cases h : firstD l n with
    | none =>
      rw [h] at c
      simp only [Option.map_none, Option.getD_none, Option.isSome_none] at c ⊢
      repeat' (first
    | refine run_seq ?_
    | (refine k_pick rfl ?_; first | refine k_assignD rfl rfl ?_ | refine k_moveD rfl rfl ?_ | refine k_fieldAddrB rfl rfl rfl ?_ | refine k_loadW rfl rfl rfl (by first | rfl | (simp only [pdSch, cellsD]; rfl)) ?_ | refine k_loadBD rfl rfl rfl (by first | rfl | (simp only [pdSch, cellsD]; rfl)) ?_ | refine k_boxW rfl rfl rfl (by first | rfl | (simp only [pdSch, cellsD]; rfl)) ?_ | refine k_call rfl (by kernel_rfl) rfl (by first | exact c | (simp only [← pdSch]; exact c)) ?_ | refine k_extract rfl rfl rfl ?_ | refine k_not rfl rfl ?_ | refine k_storeB rfl rfl rfl rfl rfl ?_ | refine k_alloc rfl rfl ?_ | refine k_build rfl rfl rfl ?_)
    | refine run_opsEnd ?_
    | refine run_region ?_
    | refine run_condT rfl (by first | rfl | assumption) ?_
    | refine run_retOk (resOk_cellTmp rfl rfl rfl (by first | rfl | (simp only [pdSch, cellsD]; rfl)) rfl ?_ ?_)
    | fail)
      · refine PLe.aggs ⟨PLe.refl _, ?_, ?_, trivial⟩
        · show PLe _ (.sl 8 144 (pdLs [])); simp only [pdLs]; exact PLe.nil _ _
        · show PLe _ (.sl 8 144 (pdMs [])); simp only [pdMs]; exact PLe.nil _ _
      · exact PLe.refl _
    | some d =>
      rw [h] at c
      simp only [Option.map_some, Option.getD_some, Option.isSome_some] at c ⊢
      repeat' (first
    | refine run_seq ?_
    | (refine k_pick rfl ?_; first | refine k_assignD rfl rfl ?_ | refine k_moveD rfl rfl ?_ | refine k_fieldAddrB rfl rfl rfl ?_ | refine k_loadW rfl rfl rfl (by first | rfl | (simp only [pdSch, cellsD]; rfl)) ?_ | refine k_loadBD rfl rfl rfl (by first | rfl | (simp only [pdSch, cellsD]; rfl)) ?_ | refine k_bin2B rfl rfl rfl rfl ?_ | refine k_boxW rfl rfl rfl (by first | rfl | (simp only [pdSch, cellsD]; rfl)) ?_ | refine k_call rfl (by kernel_rfl) rfl (by first | exact c | (simp only [← pdSch]; exact c)) ?_ | refine k_extract rfl rfl rfl ?_ | refine k_not rfl rfl ?_ | refine k_storeB rfl rfl rfl rfl rfl ?_ | refine k_alloc rfl rfl ?_)
    | refine run_opsEnd ?_
    | refine run_region ?_
    | refine run_condT rfl (by first | rfl | assumption) ?_
    | refine run_condF rfl (by first | rfl | assumption) ?_
    | refine run_skip ?_
    | refine run_retOk (resOk_cellTmp rfl rfl rfl (by first | rfl | (simp only [pdSch, cellsD]; rfl)) rfl ?_ ?_)
    | fail)
      all_goals exact PLe.of_eq rfl
end Go.Proofs.Ytlghpcokbppkfaa

/- The law FnResolveRelation answers true. -/
set_option linter.unusedVariables false
namespace Go.Proofs.Ytlghpcokbppkfaa
open Go.RowKit
set_option linter.unusedSimpArgs false
set_option maxRecDepth 10000
set_option maxHeartbeats 4000000

theorem uniqueTypes_p (l : List TD) : PCall Try.prog 42 [pdSch l] (.val (.bool (decide (l.map (·.1)).Nodup))) := by
  refine pcall_fits fun hfit => ?_
  have hb1 := (fits_TD (show Fits (pdSch l) from hfit _ (by simp))).1
  have hlen : (l.map pdTD).length = l.length := by simp
  have cD := distinctAny_p (l.map (·.1))
  refine pcall_of_run Try.func42 rfl Try.ntmps42 rfl (fun X => ?_)
  repeat' (first
    | refine run_seq ?_
    | (refine k_pick rfl ?_; first | refine k_assignD rfl rfl ?_ | refine k_moveD rfl rfl ?_ | refine k_fieldAddrB rfl rfl rfl ?_ | refine k_loadBD rfl rfl rfl (by first | rfl | (simp only [pdSch, cellsD]; rfl)) ?_ | refine k_boxW rfl rfl rfl (by first | rfl | (simp only [pdSch, cellsD]; rfl)) ?_ | refine k_lenD rfl rfl ?_ | refine k_assignO rfl rfl ?_ | refine k_buildSlice rfl rfl (by kernel_rfl) rfl rfl rfl rfl rfl ?_)
    | refine run_opsEnd ?_
    | refine run_region ?_
    | refine run_block ?_
    | fail)
  refine run_loopS (ι := { k : Nat // k ≤ l.length })
    (fun k => [(3, .own 100), (8, .dat (.sl 4 80 (l.map pdTD))), (9, .dat (.val (.int .i64 ((l.map pdTD).length : Nat)))), (10, .dat (.val (.int .i64 (k.1 : Nat))))])
    (fun k => [(100, .row 9 1 16 (pdS ((l.take k.1).map (·.1))))]) (fun k => l.length - k.1) ⟨0, Nat.zero_le _⟩ (fun j => if j = 100 then 6 else j) ?_ ?_
  · (refine ⟨?_, ?_, by rfl⟩ <;> repeat' (first | exact trivial | exact ALe.ptr rfl | exact ALe.own rfl | exact ALe.elt rfl | exact BLe.boxD _ _ | exact BLe.row rfl | exact BLe.res | exact ALe.dat (PLe.refl _) | exact CLe.nil | refine And.intro ?_ ?_ | refine ALe.iface ?_ | refine ALe.clo ?_ | refine CLe.cons ?_ ?_ | refine BLe.box ?_ | refine BLe.row ?_ | refine ALe.dat (PLe.of_eq ?_)))
  · rintro ⟨k, hk⟩
    by_cases hlt : k < l.length
    · have hc : decide ((k : Int) < (((l.map pdTD).length : Nat) : Int)) = true := by rw [hlen]; simpa using hlt
      obtain ⟨f, hf⟩ : ∃ f, l[k]? = some f := ⟨l[k], by simp [hlt]⟩
      have hi : (l.map pdTD)[((k : Nat) : Int).toNat]? = some (pdTD f) := by simp [hf]
      have hbt : ((pdS ((l.take k).map (·.1))).length + [PD.val (.string f.1)].length) * 16 ≤ 140737488351232 := by simp [pdS]; omega
      have hbl : (pdS ((l.take k).map (·.1))).length + [PD.val (.string f.1)].length ≤ 140737488351232 := by simp [pdS]; omega
      repeat' (first
    | refine run_seq ?_
    | (refine k_pick rfl ?_; first | refine k_indexAddrD rfl rfl rfl (by first | omega | (dsimp only; omega)) (by assumption) ?_ | refine k_appendOO rfl rfl rfl rfl rfl rfl (by kernel_rfl) rfl rfl hbt hbl ?_ | refine k_moveD rfl rfl ?_ | refine k_fieldAddrB rfl rfl rfl ?_ | refine k_loadBD rfl rfl rfl (by first | rfl | (simp only [pdTD_eq, cellsD]; rfl)) ?_ | refine k_bin2B rfl rfl rfl rfl ?_ | refine k_storeB rfl rfl rfl rfl rfl ?_ | refine k_ariI rfl rfl rfl rfl (by first | omega | (dsimp only; omega)) ?_ | refine k_loadD rfl rfl (by first | rfl | (simp only [pdTD_eq, cellsD]; rfl)) ?_ | refine k_alloc rfl rfl ?_ | refine k_assignO rfl rfl ?_ | refine k_moveO rfl rfl ?_ | refine k_buildSlice rfl rfl (by kernel_rfl) rfl rfl rfl rfl rfl ?_)
    | refine run_opsEnd ?_
    | refine run_region ?_
    | refine run_condT rfl (by first | rfl | assumption) ?_
    | refine run_block ?_
    | refine run_blkEnd ?_
    | refine run_skip ?_
    | fail)
      refine run_again ?_
      refine ⟨⟨k + 1, by omega⟩, (fun j => if j = 100 then 18 else j), by simp only; omega, ?_⟩
      (refine ⟨?_, ?_, by rfl⟩ <;> repeat' (first | exact trivial | exact ALe.ptr rfl | exact ALe.own rfl | exact ALe.elt rfl | exact BLe.boxD _ _ | exact BLe.row rfl | exact BLe.res | exact ALe.dat (PLe.refl _) | exact CLe.nil | refine And.intro ?_ ?_ | refine ALe.iface ?_ | refine ALe.clo ?_ | refine CLe.cons ?_ ?_ | refine BLe.box ?_ | refine BLe.row ?_ | refine ALe.dat (PLe.of_eq ?_)))
      all_goals (simp [pdS, List.take_add_one, hf])
    · have hc : decide ((k : Int) < (((l.map pdTD).length : Nat) : Int)) = false := by rw [hlen]; simpa using hlt
      have hkk : l.take k = l := List.take_of_length_le (by omega)
      simp only [hkk]
      refine run_frz (fun _ => false) (fun k => k == 100) ?_
      repeat' (first
    | refine run_seq ?_
    | (refine k_pick rfl ?_; first | refine k_assignD rfl rfl ?_ | refine k_moveD rfl rfl ?_ | refine k_bin2B rfl rfl rfl rfl ?_ | refine k_call rfl (by kernel_rfl) rfl (by first | exact cD) ?_)
    | refine run_opsEnd ?_
    | refine run_region ?_
    | refine run_condF rfl (by first | rfl | assumption) ?_
    | refine run_exit rfl ?_
    | refine run_retOk (resOk_tmp rfl rfl ?_)
    | fail)
      all_goals exact PLe.refl _
theorem definedSchema_p (l : List TD) : PCall Try.prog 43 [pdSch l] (.val (.bool (l.all fun d => defA 20 d.2))) := by
  refine pcall_fits fun hfit => ?_
  have hb1 := (fits_TD (show Fits (pdSch l) from hfit _ (by simp))).1
  have hlen : (l.map pdTD).length = l.length := by simp
  refine pcall_of_run Try.func43 rfl Try.ntmps43 rfl (fun X => ?_)
  repeat' (first
    | refine run_seq ?_
    | (refine k_pick rfl ?_; first | refine k_assignD rfl rfl ?_ | refine k_moveD rfl rfl ?_ | refine k_fieldAddrB rfl rfl rfl ?_ | refine k_loadBD rfl rfl rfl (by first | rfl | (simp only [pdSch, cellsD]; rfl)) ?_ | refine k_boxW rfl rfl rfl (by first | rfl | (simp only [pdSch, cellsD]; rfl)) ?_ | refine k_lenD rfl rfl ?_)
    | refine run_opsEnd ?_
    | refine run_region ?_
    | refine run_block ?_
    | fail)
  refine run_loopS (ι := { k : Nat // k ≤ l.length ∧ ((l.take k).all fun d => defA 20 d.2) = true })
    (fun k => [(6, .dat (.sl 4 80 (l.map pdTD))), (7, .dat (.val (.int .i64 ((l.map pdTD).length : Nat)))), (8, .dat (.val (.int .i64 (k.1 : Nat))))])
    (fun k => []) (fun k => l.length - k.1) ⟨0, Nat.zero_le _, by simp⟩ id ?_ ?_
  · (refine ⟨?_, ?_, by rfl⟩ <;> repeat' (first | exact trivial | exact ALe.ptr rfl | exact ALe.own rfl | exact ALe.elt rfl | exact BLe.boxD _ _ | exact BLe.row rfl | exact BLe.res | exact ALe.dat (PLe.refl _) | exact CLe.nil | refine And.intro ?_ ?_ | refine ALe.iface ?_ | refine ALe.clo ?_ | refine CLe.cons ?_ ?_ | refine BLe.box ?_ | refine BLe.row ?_ | refine ALe.dat (PLe.of_eq ?_)))
  · rintro ⟨k, hk, hall⟩
    by_cases hlt : k < l.length
    · have hc : decide ((k : Int) < (((l.map pdTD).length : Nat) : Int)) = true := by rw [hlen]; simpa using hlt
      obtain ⟨f, hf⟩ : ∃ f, l[k]? = some f := ⟨l[k], by simp [hlt]⟩
      have hi : (l.map pdTD)[((k : Nat) : Int).toNat]? = some (pdTD f) := by simp [hf]
      have cA := defined_p 20 f.2
      repeat' (first
    | refine run_seq ?_
    | (refine k_pick rfl ?_; first | refine k_indexAddrD rfl rfl rfl (by first | omega | (dsimp only; omega)) (by assumption) ?_ | refine k_assignD rfl rfl ?_ | refine k_moveD rfl rfl ?_ | refine k_fieldAddrB rfl rfl rfl ?_ | refine k_loadBD rfl rfl rfl (by first | rfl | (simp only [pdTD_eq, cellsD]; rfl)) ?_ | refine k_bin2B rfl rfl rfl rfl ?_ | refine k_call rfl (by kernel_rfl) rfl (by first | exact cA | (simp only [← pdTD_eq]; exact cA)) ?_ | refine k_not rfl rfl ?_ | refine k_storeB rfl rfl rfl rfl rfl ?_ | refine k_ariI rfl rfl rfl rfl (by first | omega | (dsimp only; omega)) ?_ | refine k_loadD rfl rfl (by first | rfl | (simp only [pdTD_eq, cellsD]; rfl)) ?_ | refine k_alloc rfl rfl ?_)
    | refine run_opsEnd ?_
    | refine run_region ?_
    | refine run_condT rfl (by first | rfl | assumption) ?_
    | refine run_cond rfl (fun h => ?_) (fun h => ?_)
    | refine run_block ?_
    | refine run_blkEnd ?_
    | refine run_skip ?_
    | refine run_retOk (resOk_tmp rfl rfl ?_)
    | fail)
      · have e := all_not (p := fun d : TD => defA 20 d.2) hf (by simpa using h)
        exact PLe.of_eq (by rw [e])
      · refine run_again ?_
        refine ⟨⟨k + 1, by omega, all_take (p := fun d : TD => defA 20 d.2) hall hf (by simpa using h)⟩, id, by simp only; omega, ?_⟩
        (refine ⟨?_, ?_, by rfl⟩ <;> repeat' (first | exact trivial | exact ALe.ptr rfl | exact ALe.own rfl | exact ALe.elt rfl | exact BLe.boxD _ _ | exact BLe.row rfl | exact BLe.res | exact ALe.dat (PLe.refl _) | exact CLe.nil | refine And.intro ?_ ?_ | refine ALe.iface ?_ | refine ALe.clo ?_ | refine CLe.cons ?_ ?_ | refine BLe.box ?_ | refine BLe.row ?_ | refine ALe.dat (PLe.of_eq ?_)))
    · have hc : decide ((k : Int) < (((l.map pdTD).length : Nat) : Int)) = false := by rw [hlen]; simpa using hlt
      have e : (l.all fun d => defA 20 d.2) = true := by rwa [List.take_of_length_le (by omega)] at hall
      repeat' (first
    | refine run_seq ?_
    | (refine k_pick rfl ?_; first | refine k_assignD rfl rfl ?_ | refine k_bin2B rfl rfl rfl rfl ?_)
    | refine run_opsEnd ?_
    | refine run_region ?_
    | refine run_condF rfl (by first | rfl | assumption) ?_
    | refine run_exit rfl ?_
    | refine run_retOk (resOk_tmp rfl rfl ?_)
    | fail)
      all_goals exact PLe.of_eq (by rw [e])
theorem fits6_p (l : List TD) : ∃ b, PCall Try.prog 33 [pdSch l] (.val (.bool b)) := by
  by_cases h1 : (2147483647 : Int) < ((l.map pdTD).length : Nat)
  · refine ⟨false, ?_⟩
    have e1 : decide ((2147483647 : Int) < ((l.map pdTD).length : Nat)) = true := by simpa using h1
    refine pcall_of_run Try.func33 rfl Try.ntmps33 rfl (fun X => ?_)
    repeat' (first
    | refine run_seq ?_
    | (refine k_pick rfl ?_; first | refine k_assignD rfl rfl ?_ | refine k_fieldAddrB rfl rfl rfl ?_ | refine k_loadBD rfl rfl rfl (by first | rfl | (simp only [pdSch, cellsD]; rfl)) ?_ | refine k_bin2B rfl rfl rfl rfl ?_ | refine k_boxW rfl rfl rfl (by first | rfl | (simp only [pdSch, cellsD]; rfl)) ?_ | refine k_lenD rfl rfl ?_)
    | refine run_opsEnd ?_
    | refine run_region ?_
    | refine run_condT rfl (by first | rfl | assumption) ?_
    | refine run_retOk (resOk_tmp rfl rfl ?_)
    | fail)
    all_goals exact PLe.refl _
  · refine ⟨true, ?_⟩
    have e1 : decide ((2147483647 : Int) < ((l.map pdTD).length : Nat)) = false := by simpa using h1
    refine pcall_of_run Try.func33 rfl Try.ntmps33 rfl (fun X => ?_)
    repeat' (first
    | refine run_seq ?_
    | (refine k_pick rfl ?_; first | refine k_assignD rfl rfl ?_ | refine k_fieldAddrB rfl rfl rfl ?_ | refine k_loadBD rfl rfl rfl (by first | rfl | (simp only [pdSch, cellsD]; rfl)) ?_ | refine k_bin2B rfl rfl rfl rfl ?_ | refine k_boxW rfl rfl rfl (by first | rfl | (simp only [pdSch, cellsD]; rfl)) ?_ | refine k_lenD rfl rfl ?_)
    | refine run_opsEnd ?_
    | refine run_region ?_
    | refine run_condF rfl (by first | rfl | assumption) ?_
    | refine run_skip ?_
    | refine run_retOk (resOk_tmp rfl rfl ?_)
    | fail)
    all_goals exact PLe.refl _
theorem fits7_p (r : TR) : ∃ b, PCall Try.prog 41 [qR r] (.val (.bool b)) := by
  by_cases h1 : (2147483647 : Int) < (r.name.size : Nat)
  · refine ⟨false, ?_⟩
    have e1 : decide ((2147483647 : Int) < (r.name.size : Nat)) = true := by simpa using h1
    refine pcall_of_run Try.func41 rfl Try.ntmps41 rfl (fun X => ?_)
    repeat' (first
    | refine run_seq ?_
    | (refine k_pick rfl ?_; first | refine k_assignD rfl rfl ?_ | refine k_fieldAddrB rfl rfl rfl ?_ | refine k_loadBD rfl rfl rfl (by first | rfl | (simp only [cellsD]; rfl)) ?_ | refine k_bin2B rfl rfl rfl rfl ?_ | refine k_boxW rfl rfl rfl (by first | rfl | (simp only [cellsD]; rfl)) ?_ | refine k_lenS rfl rfl (by kernel_rfl) ?_)
    | refine run_opsEnd ?_
    | refine run_region ?_
    | refine run_condT rfl (by first | rfl | assumption) ?_
    | refine run_retOk (resOk_tmp rfl rfl ?_)
    | fail)
    all_goals exact PLe.refl _
  · have e1 : decide ((2147483647 : Int) < (r.name.size : Nat)) = false := by simpa using h1
    by_cases h2 : (2147483647 : Int) < (r.rel.size : Nat)
    · refine ⟨false, ?_⟩
      have e2 : decide ((2147483647 : Int) < (r.rel.size : Nat)) = true := by simpa using h2
      refine pcall_of_run Try.func41 rfl Try.ntmps41 rfl (fun X => ?_)
      repeat' (first
    | refine run_seq ?_
    | (refine k_pick rfl ?_; first | refine k_assignD rfl rfl ?_ | refine k_fieldAddrB rfl rfl rfl ?_ | refine k_loadBD rfl rfl rfl (by first | rfl | (simp only [cellsD]; rfl)) ?_ | refine k_bin2B rfl rfl rfl rfl ?_ | refine k_boxW rfl rfl rfl (by first | rfl | (simp only [cellsD]; rfl)) ?_ | refine k_lenS rfl rfl (by kernel_rfl) ?_)
    | refine run_opsEnd ?_
    | refine run_region ?_
    | refine run_condT rfl (by first | rfl | assumption) ?_
    | refine run_condF rfl (by first | rfl | assumption) ?_
    | refine run_skip ?_
    | refine run_retOk (resOk_tmp rfl rfl ?_)
    | fail)
      all_goals exact PLe.refl _
    · refine ⟨true, ?_⟩
      have e2 : decide ((2147483647 : Int) < (r.rel.size : Nat)) = false := by simpa using h2
      refine pcall_of_run Try.func41 rfl Try.ntmps41 rfl (fun X => ?_)
      repeat' (first
    | refine run_seq ?_
    | (refine k_pick rfl ?_; first | refine k_assignD rfl rfl ?_ | refine k_fieldAddrB rfl rfl rfl ?_ | refine k_loadBD rfl rfl rfl (by first | rfl | (simp only [cellsD]; rfl)) ?_ | refine k_bin2B rfl rfl rfl rfl ?_ | refine k_boxW rfl rfl rfl (by first | rfl | (simp only [cellsD]; rfl)) ?_ | refine k_lenS rfl rfl (by kernel_rfl) ?_)
    | refine run_opsEnd ?_
    | refine run_region ?_
    | refine run_condF rfl (by first | rfl | assumption) ?_
    | refine run_skip ?_
    | refine run_retOk (resOk_tmp rfl rfl ?_)
    | fail)
      all_goals exact PLe.refl _
theorem sameAtom_p (a : TA) : PCall Try.prog 45 [qA (nA a), qA a] (.val (.bool true)) := by
  refine pcall_fits fun hfit => ?_
  have c := atomsAlike_c a (by rw [pdA_eq]; exact hfit (qA a) (by simp))
  unfold fSV at c
  refine pcall_of_run Try.func45 rfl Try.ntmps45 rfl (fun X => ?_)
  repeat' (first
    | refine run_seq ?_
    | (refine k_pick rfl ?_; first | refine k_assignD rfl rfl ?_ | refine k_loadW rfl rfl rfl (by first | rfl | (simp only [cellsD]; rfl)) ?_ | refine k_boxW rfl rfl rfl (by first | rfl | (simp only [cellsD]; rfl)) ?_ | refine k_call rfl (by kernel_rfl) rfl (by first | exact c) ?_)
    | refine run_opsEnd ?_
    | refine run_region ?_
    | refine run_retOk (resOk_tmp rfl rfl ?_)
    | fail)
  all_goals exact PLe.refl _
end Go.Proofs.Ytlghpcokbppkfaa

/- The law FnResolveRelation answers true. -/
set_option linter.unusedVariables false
namespace Go.Proofs.Ytlghpcokbppkfaa
open Go.RowKit
set_option linter.unusedSimpArgs false
set_option maxRecDepth 10000
set_option maxHeartbeats 8000000

/-- The relationship is none of the three. -/
def noRel (rel : ByteArray) : Bool := decide (rel ≠ ⟨#[97, 116, 111, 109, 105, 99]⟩) && decide (rel ≠ ⟨#[97, 115, 115, 111, 99, 105, 97, 116, 105, 118, 101]⟩) && decide (rel ≠ ⟨#[115, 101, 112, 97, 114, 97, 98, 108, 101]⟩)
theorem noRel_nil : noRel ⟨#[]⟩ = true := by decide
theorem lawRes_p (l : List TD) (r : TR) (rel : ByteArray) : PCall Try.prog 9 [pdSch l, qR r, .val (.string rel)] (.val (.bool true)) := by
  obtain ⟨b0, c0⟩ := fits6_p l
  obtain ⟨b1, c1⟩ := fits7_p r
  have cU := uniqueTypes_p l
  have cD := definedSchema_p l
  have cA := defined_p 20 r.atom
  generalize (l.all fun d => defA 20 d.2) = bd at cD
  generalize defA 20 r.atom = ba at cA
  obtain ⟨b, n, a, rl⟩ := r
  have cS := specRes_p l b n a
  have cR := implRes_p l (.mk b n a rel)
  rw [pdR_eq] at cR
  generalize hbu : decide (l.map (·.1)).Nodup = bu at cU
  refine pcall_of_run Try.func9 rfl Try.ntmps9 rfl (fun X => ?_)
  repeat' (first
    | (show Run _ _ _ _ (Itm.code (Code.region 1 _ _) :: _) _; refine run_hold ?_)
    | refine run_seq ?_
    | (refine k_pick rfl ?_; first | refine k_assignD rfl rfl ?_ | refine k_boxW rfl rfl rfl (by first | rfl | (simp only [cellsD]; rfl)) ?_)
    | refine run_opsEnd ?_
    | refine run_region ?_
    | fail)
  refine ⟨?_⟩
  refine run_stage (mkSta [(2, .dat (.val (.string rel))), (3, .ptr 3 0), (4, .ptr 4 0), (25, .dat (.val (.bool (!b0 || !b1 || decide ((2147483647 : Int) < (rel.size : Nat))))))] [(3, .box 61 (cellsD (pdSch l))), (4, .box 43 (cellsD (qR (.mk b n a rl))))]) ?_ ?_
  · repeat' (first
    | (refine k_pick rfl ?_; first | refine k_moveD rfl rfl ?_ | refine k_loadW rfl rfl rfl (by first | rfl | (simp only [cellsD]; rfl)) ?_ | refine k_pickT rfl rfl (by first | rfl | assumption) rfl ?_ | refine k_pickF rfl rfl (by first | rfl | assumption) rfl ?_ | refine k_call rfl (by kernel_rfl) rfl (by first | exact c0 | exact c1) ?_ | refine k_not rfl rfl ?_)
    | refine run_opsEnd ?_
    | refine run_region ?_
    | (refine k_guardY rfl rfl (by first | rfl | assumption) ?_; first | refine k_bin2B rfl rfl rfl rfl ?_ | refine k_call rfl (by kernel_rfl) rfl (by first | exact c0 | exact c1) ?_ | refine k_lenS rfl rfl (by kernel_rfl) ?_ | refine k_not rfl rfl ?_)
    | refine k_guardNF rfl rfl (by first | rfl | assumption) rfl ?_
    | refine k_guardF rfl rfl rfl (fun h => ?_) (fun h => ?_)
    | (first | refine k_moveD rfl rfl ?_ | refine k_loadW rfl rfl rfl (by first | rfl | (simp only [cellsD]; rfl)) ?_)
    | fail)
    all_goals (refine run_stageEnd id ?_; simp_all only [Bool.not_true, Bool.not_false, Bool.true_or, Bool.or_true, Bool.false_or, Bool.or_false]; (refine ⟨?_, ?_, by rfl⟩ <;> repeat' (first | exact trivial | exact ALe.ptr rfl | exact ALe.own rfl | exact ALe.elt rfl | exact BLe.boxD _ _ | exact BLe.row rfl | exact BLe.res | exact ALe.dat (PLe.refl _) | exact CLe.nil | refine And.intro ?_ ?_ | refine ALe.iface ?_ | refine ALe.clo ?_ | refine CLe.cons ?_ ?_ | refine BLe.box ?_ | refine BLe.row ?_ | refine ALe.dat (PLe.of_eq ?_))))
    all_goals trace_state
  cases hb1 : (!b0 || !b1 || decide ((2147483647 : Int) < (rel.size : Nat)))
  case true =>
    repeat' (first
    | refine run_seq ?_
    | (refine k_pick rfl ?_; refine k_assignD rfl rfl ?_)
    | refine run_opsEnd ?_
    | refine run_region ?_
    | refine run_condT rfl (by first | rfl | assumption) ?_
    | refine run_retOk (resOk_tmp rfl rfl ?_)
    | fail)
    all_goals exact PLe.refl _
  repeat' (first
    | (show Run _ _ _ _ (Itm.code (Code.region 3 _ _) :: _) _; refine run_hold ?_)
    | refine run_seq ?_
    | refine run_condF rfl (by first | rfl | assumption) ?_
    | refine run_skip ?_
    | fail)
  refine ⟨?_⟩
  refine run_stage (mkSta [(2, .dat (.val (.string rel))), (3, .ptr 3 0), (4, .ptr 4 0), (51, .dat (.val (.bool (noRel rel || !bu || !bd || !ba))))] [(3, .box 61 (cellsD (pdSch l))), (4, .box 43 (cellsD (qR (.mk b n a rl))))]) ?_ ?_
  · repeat' (first
    | (refine k_pick rfl ?_; first | refine k_moveD rfl rfl ?_ | refine k_bin2B rfl rfl rfl rfl ?_ | refine k_pickT rfl rfl (by first | rfl | assumption) rfl ?_ | refine k_pickF rfl rfl (by first | rfl | assumption) rfl ?_)
    | refine run_opsEnd ?_
    | refine run_region ?_
    | (refine k_guardY rfl rfl (by first | rfl | assumption) ?_; first | refine k_loadW rfl rfl rfl (by first | rfl | (simp only [cellsD]; rfl)) ?_ | refine k_loadBD rfl rfl rfl (by first | rfl | (simp only [cellsD]; rfl)) ?_ | refine k_bin2B rfl rfl rfl rfl ?_ | refine k_call rfl (by kernel_rfl) rfl (by first | exact cU | exact cD | exact cA) ?_ | refine k_not rfl rfl ?_)
    | refine k_guardNT rfl rfl (by first | rfl | assumption) rfl ?_
    | refine k_guardNF rfl rfl (by first | rfl | assumption) rfl ?_
    | refine k_guardT rfl rfl rfl (fun h => ?_) (fun h => ?_)
    | refine k_guardF rfl rfl rfl (fun h => ?_) (fun h => ?_)
    | (first | refine k_moveD rfl rfl ?_ | refine k_fieldAddrB rfl rfl rfl ?_ | refine k_loadW rfl rfl rfl (by first | rfl | (simp only [cellsD]; rfl)) ?_)
    | fail)
    all_goals (refine run_stageEnd id ?_; (refine ⟨?_, ?_, by rfl⟩ <;> repeat' (first | exact trivial | exact ALe.ptr rfl | exact ALe.own rfl | exact ALe.elt rfl | exact BLe.boxD _ _ | exact BLe.row rfl | exact BLe.res | exact ALe.dat (PLe.refl _) | exact CLe.nil | refine And.intro ?_ ?_ | refine ALe.iface ?_ | refine ALe.clo ?_ | refine CLe.cons ?_ ?_ | refine BLe.box ?_ | refine BLe.row ?_ | refine ALe.dat (PLe.of_eq ?_))))
    all_goals (simp_all [noRel])
  cases hb2 : (noRel rel || !bu || !bd || !ba)
  case true =>
    repeat' (first
    | refine run_seq ?_
    | (refine k_pick rfl ?_; refine k_assignD rfl rfl ?_)
    | refine run_opsEnd ?_
    | refine run_region ?_
    | refine run_condT rfl (by first | rfl | assumption) ?_
    | refine run_retOk (resOk_tmp rfl rfl ?_)
    | fail)
    all_goals exact PLe.refl _
  simp only [Bool.or_eq_false_iff, Bool.not_eq_false'] at hb2
  obtain ⟨⟨⟨hr, rfl⟩, rfl⟩, rfl⟩ := hb2
  have hu := of_decide_eq_true hbu
  have hr : rel ≠ ⟨#[]⟩ := fun e => by rw [e, noRel_nil] at hr; cases hr
  have hres : resR l (.mk b n a rel) = (specN l b n a).bind fun w => setRel w rel := by
    cases b <;> simp [resR, resN, specN, TR.named, TR.name, TR.atom, TR.rel, hr, first_last hu]
  rw [hres] at cR
  cases hw : specN l b n a with
  | none =>
    rw [hw] at cS
    simp only [Option.getD_none, Option.isSome_none] at cS
    repeat' (first
    | refine run_seq ?_
    | (refine k_pick rfl ?_; first | refine k_assignD rfl rfl ?_ | refine k_moveD rfl rfl ?_ | refine k_fieldAddrB rfl rfl rfl ?_ | refine k_loadW rfl rfl rfl (by first | rfl | (simp only [cellsD]; rfl)) ?_ | refine k_loadBD rfl rfl rfl (by first | rfl | (simp only [cellsD]; rfl)) ?_ | refine k_pickT rfl rfl (by first | rfl | assumption) rfl ?_ | refine k_call rfl (by kernel_rfl) rfl (by first | exact cS) ?_ | refine k_extract rfl rfl rfl ?_ | refine k_not rfl rfl ?_ | refine k_storeB rfl rfl rfl rfl rfl ?_ | refine k_alloc rfl rfl ?_)
    | refine run_opsEnd ?_
    | refine run_region ?_
    | refine run_condT rfl (by first | rfl | assumption) ?_
    | refine run_condF rfl (by first | rfl | assumption) ?_
    | refine k_guardNF rfl rfl (by first | rfl | assumption) rfl ?_
    | refine run_skip ?_
    | refine run_retOk (resOk_tmp rfl rfl ?_)
    | fail)
    all_goals exact PLe.refl _
  | some w =>
    rw [hw] at cS cR
    simp only [Option.getD_some, Option.isSome_some, Option.bind_some] at cS cR
    obtain ⟨sc, ls, ms⟩ := w
    have hL : (pdLs ls).length = ls.length := pdLs_lenN ls
    have hM : (pdMs ms).length = ms.length := pdMs_lenN ms
    by_cases hs : sc = ⟨#[]⟩
    case neg =>
      have es : decide (sc ≠ ⟨#[]⟩) = true := by simpa using hs
      clear cR
      repeat' (first
    | refine run_seq ?_
    | (refine k_pick rfl ?_; first | refine k_assignD rfl rfl ?_ | refine k_moveD rfl rfl ?_ | refine k_fieldAddrB rfl rfl rfl ?_ | refine k_loadW rfl rfl rfl (by first | rfl | (simp only [cellsD]; rfl)) ?_ | refine k_loadBD rfl rfl rfl (by first | rfl | (simp only [cellsD]; rfl)) ?_ | refine k_pickT rfl rfl (by first | rfl | assumption) rfl ?_ | refine k_pickF rfl rfl (by first | rfl | assumption) rfl ?_ | refine k_call rfl (by kernel_rfl) rfl (by first | exact cS) ?_ | refine k_extract rfl rfl rfl ?_ | refine k_not rfl rfl ?_ | refine k_storeB rfl rfl rfl rfl rfl ?_ | refine k_alloc rfl rfl ?_)
    | refine run_opsEnd ?_
    | refine run_region ?_
    | refine run_condT rfl (by first | rfl | assumption) ?_
    | refine run_condF rfl (by first | rfl | assumption) ?_
    | (refine k_guardY rfl rfl (by first | rfl | assumption) ?_; first | refine k_fieldAddrB rfl rfl rfl ?_ | refine k_loadBD rfl rfl rfl (by first | rfl | (simp only [cellsD]; rfl)) ?_ | refine k_bin2B rfl rfl rfl rfl ?_ | refine k_cmpBool rfl rfl rfl (by kernel_rfl) rfl ?_ | refine k_lenD rfl rfl ?_)
    | refine k_guardNF rfl rfl (by first | rfl | assumption) rfl ?_
    | refine k_guardF rfl rfl rfl (fun h => ?_) (fun h => ?_)
    | refine run_skip ?_
    | refine run_retOk (resOk_tmp rfl rfl ?_)
    | (refine k_fieldAddrB rfl rfl rfl ?_)
    | fail)
      all_goals exact PLe.refl _
    have es : decide (sc ≠ ⟨#[]⟩) = false := by simpa using hs
    cases ls with
    | nil =>
      have el : decide ((0 : Int) < ((pdLs []).length : Int)) = false := by rw [hL]; rfl
      cases ms with
      | nil =>
        have em : decide ((0 : Int) < ((pdMs []).length : Int)) = false := by rw [hM]; rfl
        have eb : (decide ((0 : Int) < ((pdLs []).length : Int)) == decide ((0 : Int) < ((pdMs []).length : Int))) = true := by rw [el, em]; rfl
        clear cR
        repeat' (first
    | refine run_seq ?_
    | (refine k_pick rfl ?_; first | refine k_assignD rfl rfl ?_ | refine k_moveD rfl rfl ?_ | refine k_fieldAddrB rfl rfl rfl ?_ | refine k_loadW rfl rfl rfl (by first | rfl | (simp only [cellsD]; rfl)) ?_ | refine k_loadBD rfl rfl rfl (by first | rfl | (simp only [cellsD]; rfl)) ?_ | refine k_pickT rfl rfl (by first | rfl | assumption) rfl ?_ | refine k_pickF rfl rfl (by first | rfl | assumption) rfl ?_ | refine k_call rfl (by kernel_rfl) rfl (by first | exact cS) ?_ | refine k_extract rfl rfl rfl ?_ | refine k_not rfl rfl ?_ | refine k_storeB rfl rfl rfl rfl rfl ?_ | refine k_alloc rfl rfl ?_)
    | refine run_opsEnd ?_
    | refine run_region ?_
    | refine run_condT rfl (by first | rfl | assumption) ?_
    | refine run_condF rfl (by first | rfl | assumption) ?_
    | (refine k_guardY rfl rfl (by first | rfl | assumption) ?_; first | refine k_fieldAddrB rfl rfl rfl ?_ | refine k_loadBD rfl rfl rfl (by first | rfl | (simp only [cellsD]; rfl)) ?_ | refine k_bin2B rfl rfl rfl rfl ?_ | refine k_cmpBool rfl rfl rfl (by kernel_rfl) rfl ?_ | refine k_lenD rfl rfl ?_)
    | refine k_guardNF rfl rfl (by first | rfl | assumption) rfl ?_
    | refine run_skip ?_
    | refine run_retOk (resOk_tmp rfl rfl ?_)
    | fail)
        all_goals exact PLe.refl _
      | cons m mr =>
        have em : decide ((0 : Int) < ((pdMs (m :: mr)).length : Int)) = true := by rw [hM]; simp <;> omega
        have eb : (decide ((0 : Int) < ((pdLs []).length : Int)) == decide ((0 : Int) < ((pdMs (m :: mr)).length : Int))) = false := by rw [el, em]; rfl
        have hi : (pdMs (m :: mr))[(0 : Int).toNat]? = some (qM m) := by rw [head0M rfl, pdM_eq]; rfl
        rw [show setRel (.mk sc [] (m :: mr)) rel = some (.mk sc [] [.mk m.fields m.elem rel]) from rfl] at cR
        simp only [Option.getD_some, Option.isSome_some] at cR
        have cX := sameAtom_p (.mk sc [] [.mk m.fields m.elem rel])
        rw [show qA (.mk sc [] [.mk m.fields m.elem rel]) = .agg [.val (.string sc), .sl 8 144 (pdLs []), .sl 8 144 [.agg [.sl 8 144 (pdFs m.fields), .val (.bool m.elem.named), .val (.string m.elem.name), .val (.string m.elem.atom.scalar), .sl 8 144 (pdLs m.elem.atom.lists), .sl 8 144 (pdMs m.elem.atom.maps), .val (.string m.elem.rel), .val (.string rel)]]] by
          simp only [qA, pdMs_eq, List.map_cons, List.map_nil, pdM_eq, TA.scalar, TA.lists, TA.maps, TM.fields, TM.elem, TM.rel]] at cX
        repeat' (first
    | (show Run _ _ _ _ (Itm.ops _ [4, 5, 6] :: Itm.code Code.ret :: _) _; refine run_frz (fun _ => false) (fun k => k == 96 || k == 105) ?_; refine k_guardY rfl rfl rfl ?_; refine k_call rfl (by kernel_rfl) rfl cX ?_)
    | refine run_seq ?_
    | (refine k_pick rfl ?_; first | refine k_indexAddrD rfl rfl rfl (by first | omega | (dsimp only; omega)) (by assumption) ?_ | refine k_assignD rfl rfl ?_ | refine k_moveD rfl rfl ?_ | refine k_fieldAddrB rfl rfl rfl ?_ | refine k_loadW rfl rfl rfl (by first | rfl | (simp only [cellsD]; rfl)) ?_ | refine k_loadBD rfl rfl rfl (by first | rfl | (simp only [cellsD]; rfl)) ?_ | refine k_bin2B rfl rfl rfl rfl ?_ | refine k_pickT rfl rfl (by first | rfl | assumption) rfl ?_ | refine k_pickF rfl rfl (by first | rfl | assumption) rfl ?_ | refine k_call rfl (by kernel_rfl) rfl (by first | exact cS | exact cR) ?_ | refine k_extract rfl rfl rfl ?_ | refine k_lenD rfl rfl ?_ | refine k_not rfl rfl ?_ | refine k_storeB rfl rfl rfl rfl rfl ?_ | refine k_loadD rfl rfl (by first | rfl | (simp only [cellsD]; rfl)) ?_ | refine k_alloc rfl rfl ?_ | refine k_buildSlice rfl rfl (by kernel_rfl) rfl rfl rfl rfl rfl ?_)
    | refine run_opsEnd ?_
    | refine run_region ?_
    | refine run_condF rfl (by first | rfl | assumption) ?_
    | (refine k_guardY rfl rfl (by first | rfl | assumption) ?_; first | refine k_fieldAddrB rfl rfl rfl ?_ | refine k_loadBD rfl rfl rfl (by first | rfl | (simp only [cellsD]; rfl)) ?_ | refine k_bin2B rfl rfl rfl rfl ?_ | refine k_cmpBool rfl rfl rfl (by kernel_rfl) rfl ?_ | refine k_lenD rfl rfl ?_ | refine k_loadBG rfl rfl rfl rfl ?_)
    | refine run_skip ?_
    | refine run_retOk (resOk_tmp rfl rfl ?_)
    | fail)
        all_goals exact PLe.refl _
    | cons q lr =>
      have el : decide ((0 : Int) < ((pdLs (q :: lr)).length : Int)) = true := by rw [hL]; simp <;> omega
      cases ms with
      | cons m mr =>
        have em : decide ((0 : Int) < ((pdMs (m :: mr)).length : Int)) = true := by rw [hM]; simp <;> omega
        have eb : (decide ((0 : Int) < ((pdLs (q :: lr)).length : Int)) == decide ((0 : Int) < ((pdMs (m :: mr)).length : Int))) = true := by rw [el, em]; rfl
        clear cR
        repeat' (first
    | refine run_seq ?_
    | (refine k_pick rfl ?_; first | refine k_assignD rfl rfl ?_ | refine k_moveD rfl rfl ?_ | refine k_fieldAddrB rfl rfl rfl ?_ | refine k_loadW rfl rfl rfl (by first | rfl | (simp only [cellsD]; rfl)) ?_ | refine k_loadBD rfl rfl rfl (by first | rfl | (simp only [cellsD]; rfl)) ?_ | refine k_pickT rfl rfl (by first | rfl | assumption) rfl ?_ | refine k_pickF rfl rfl (by first | rfl | assumption) rfl ?_ | refine k_call rfl (by kernel_rfl) rfl (by first | exact cS) ?_ | refine k_extract rfl rfl rfl ?_ | refine k_not rfl rfl ?_ | refine k_storeB rfl rfl rfl rfl rfl ?_ | refine k_alloc rfl rfl ?_)
    | refine run_opsEnd ?_
    | refine run_region ?_
    | refine run_condT rfl (by first | rfl | assumption) ?_
    | refine run_condF rfl (by first | rfl | assumption) ?_
    | (refine k_guardY rfl rfl (by first | rfl | assumption) ?_; first | refine k_fieldAddrB rfl rfl rfl ?_ | refine k_loadBD rfl rfl rfl (by first | rfl | (simp only [cellsD]; rfl)) ?_ | refine k_bin2B rfl rfl rfl rfl ?_ | refine k_cmpBool rfl rfl rfl (by kernel_rfl) rfl ?_ | refine k_lenD rfl rfl ?_)
    | refine k_guardNF rfl rfl (by first | rfl | assumption) rfl ?_
    | refine run_skip ?_
    | refine run_retOk (resOk_tmp rfl rfl ?_)
    | fail)
        all_goals exact PLe.refl _
      | nil =>
        have em : decide ((0 : Int) < ((pdMs []).length : Int)) = false := by rw [hM]; rfl
        have eb : (decide ((0 : Int) < ((pdLs (q :: lr)).length : Int)) == decide ((0 : Int) < ((pdMs []).length : Int))) = false := by rw [el, em]; rfl
        have hi : (pdLs (q :: lr))[(0 : Int).toNat]? = some (.agg [.val (.bool q.elem.named), .val (.string q.elem.name), .val (.string q.elem.atom.scalar), .sl 8 144 (pdLs q.elem.atom.lists), .sl 8 144 (pdMs q.elem.atom.maps), .val (.string q.elem.rel), .val (.string q.rel), .sl 1 16 (pdS q.keys)]) := by rw [head0L rfl, pdL_eq]
        rw [show setRel (.mk sc (q :: lr) []) rel = some (.mk sc [.mk q.elem rel q.keys] []) from rfl] at cR
        simp only [Option.getD_some, Option.isSome_some] at cR
        have cX := sameAtom_p (.mk sc [.mk q.elem rel q.keys] [])
        rw [show qA (.mk sc [.mk q.elem rel q.keys] []) = .agg [.val (.string sc), .sl 8 144 [.agg [.val (.bool q.elem.named), .val (.string q.elem.name), .val (.string q.elem.atom.scalar), .sl 8 144 (pdLs q.elem.atom.lists), .sl 8 144 (pdMs q.elem.atom.maps), .val (.string q.elem.rel), .val (.string rel), .sl 1 16 (pdS q.keys)]], .sl 8 144 (pdMs [])] by
          simp only [qA, pdLs_eq, List.map_cons, List.map_nil, pdL_eq, TA.scalar, TA.lists, TA.maps, TL.keys, TL.elem, TL.rel]] at cX
        repeat' (first
    | (show Run _ _ _ _ (Itm.ops _ [4, 5, 6] :: Itm.code Code.ret :: _) _; refine run_frz (fun _ => false) (fun k => k == 96 || k == 105) ?_; refine k_guardY rfl rfl rfl ?_; refine k_call rfl (by kernel_rfl) rfl cX ?_)
    | refine run_seq ?_
    | (refine k_pick rfl ?_; first | refine k_indexAddrD rfl rfl rfl (by first | omega | (dsimp only; omega)) (by assumption) ?_ | refine k_assignD rfl rfl ?_ | refine k_moveD rfl rfl ?_ | refine k_fieldAddrB rfl rfl rfl ?_ | refine k_loadW rfl rfl rfl (by first | rfl | (simp only [cellsD]; rfl)) ?_ | refine k_loadBD rfl rfl rfl (by first | rfl | (simp only [cellsD]; rfl)) ?_ | refine k_bin2B rfl rfl rfl rfl ?_ | refine k_pickT rfl rfl (by first | rfl | assumption) rfl ?_ | refine k_pickF rfl rfl (by first | rfl | assumption) rfl ?_ | refine k_call rfl (by kernel_rfl) rfl (by first | exact cS | exact cR) ?_ | refine k_extract rfl rfl rfl ?_ | refine k_lenD rfl rfl ?_ | refine k_not rfl rfl ?_ | refine k_storeB rfl rfl rfl rfl rfl ?_ | refine k_loadD rfl rfl (by first | rfl | (simp only [cellsD]; rfl)) ?_ | refine k_alloc rfl rfl ?_ | refine k_buildSlice rfl rfl (by kernel_rfl) rfl rfl rfl rfl rfl ?_)
    | refine run_opsEnd ?_
    | refine run_region ?_
    | refine run_condT rfl (by first | rfl | assumption) ?_
    | refine run_condF rfl (by first | rfl | assumption) ?_
    | (refine k_guardY rfl rfl (by first | rfl | assumption) ?_; first | refine k_fieldAddrB rfl rfl rfl ?_ | refine k_loadBD rfl rfl rfl (by first | rfl | (simp only [cellsD]; rfl)) ?_ | refine k_bin2B rfl rfl rfl rfl ?_ | refine k_cmpBool rfl rfl rfl (by kernel_rfl) rfl ?_ | refine k_lenD rfl rfl ?_ | refine k_loadBG rfl rfl rfl rfl ?_)
    | refine run_skip ?_
    | refine run_retOk (resOk_tmp rfl rfl ?_)
    | fail)
        all_goals exact PLe.refl _
end Go.Proofs.Ytlghpcokbppkfaa
