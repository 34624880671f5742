/- Part 10 of what the proof rests on. -/
import Derived.ProofKit
import Derived.SizedLaws
import Derived.JoinedOf
import Derived.WalkKit
import Derived.Test.YtgmahieoiifpfaaGreatEmR3
import Derived.Test.YtgmahieoiifpfaaGreatEmR4
import Derived.Test.YtgmahieoiifpfaaGreatEmR5
import Derived.Test.YtgmahieoiifpfaaGreatEmR6
import Derived.Test.YtgmahieoiifpfaaGreatEmR8
import Derived.Test.YtgmahieoiifpfaaGreatEmR9
section
set_option linter.unusedVariables false
namespace Go.Proofs.YtgmahieoiifpfaaGreat
open Go.RowKit
set_option linter.unusedSimpArgs false
def peC : PEV → List PD
  | .name s => [.ptr (.val (.string s)), nilP, nilP, nilP]
  | .key fl => [nilP, .ptr (dvFl fl), nilP, nilP]
  | .val j => [nilP, nilP, .ptr (dvV j), nilP]
  | .idx n => [nilP, nilP, nilP, .ptr (.val (.int .i64 n))]
theorem dvPE_C (p : PEV) : dvPE p = .agg (peC p) := by cases p <;> rfl
/-- A path element with its value. -/
def dvPV (e : PEV × JV) : PD := .agg (peC e.1 ++ [dvV e.2])
theorem peC_four (p : PEV) : ∃ d0 d1 d2 d3, peC p = [d0, d1, d2, d3] := by cases p <;> exact ⟨_, _, _, _, rfl⟩
theorem one_dvV (j : JV) : One1 (dvV j) := fun w F c h => by
  unfold dvV Rep at h
  obtain ⟨u, rfl, _⟩ := h
  rfl
theorem fits_PV (e : PEV × JV) : fitsD true 5 (dvPV e) = true := by
  obtain ⟨d0, d1, d2, d3, h⟩ := peC_four e.1
  unfold dvPV
  rw [h]
  rfl
theorem fmGet_p (x : PEV × JV) (p : PEV) : PCall Tryz.prog 196 [dvPV x, dvPE p] (.val (.int .i64 (cmpPE x.1 p))) := by
  have c := peCompare_p x.1 p
  obtain ⟨d0, d1, d2, d3, e⟩ := peC_four x.1
  obtain ⟨u0, u1, u2, u3, e'⟩ := dvPE_agg p
  unfold dvPV
  rw [dvPE_C x.1, e, e'] at c
  rw [e, e']
  refine pcall_of_run Tryz.func196 rfl Tryz.ntmps196 rfl (fun X => ?_)
  repeat' (first
    | refine run_seq ?_
    | (refine k_pick rfl ?_; first | refine k_assignD rfl rfl ?_ | refine k_fieldAddrB rfl rfl rfl ?_ | refine k_loadW rfl rfl rfl (by first | rfl | (simp only [cellsD]; rfl)) ?_ | refine k_loadBD rfl rfl rfl (by first | rfl | (simp only [cellsD]; rfl)) ?_ | refine k_boxW rfl rfl rfl (by first | rfl | (simp only [cellsD]; rfl)) ?_ | refine k_call rfl (by kernel_rfl) rfl (by first | exact c) ?_)
    | refine run_opsEnd ?_
    | refine run_region ?_
    | refine run_retOk (resOk_tmp rfl rfl ?_)
    | fail)
  all_goals exact PLe.refl _
set_option maxHeartbeats 8000000 in
/-- slices.BinarySearchFunc over a map. -/
theorem bsmGet_p (m : List (PEV × JV)) (p : PEV) (hl : ∀ x ∈ m.map (·.1), OPE x) (hp : OPE p) (hs : Srt cmpPE (m.map (·.1))) :
    PCall Tryz.prog 190 [.sl 5 48 (m.map dvPV), dvPE p, .val (.func (.func 196) #[] #[])] (.tup [.val (.int .i64 ((locL_ cmpPE (m.map (·.1)) p : Nat) : Int)), .val (.bool (fndL_ cmpPE (m.map (·.1)) p))]) := by
  refine pcall_fits fun hfit => ?_
  have b1 := (hfit (.sl 5 48 (m.map dvPV)) (by simp)).sl.2.1
  clear hfit
  have n1 : (m.map dvPV).length = m.length := by simp
  have ga : ∀ {i : Nat} {x : PEV × JV}, m[i]? = some x → (m.map dvPV)[((i : Nat) : Int).toNat]? = some (dvPV x) := fun h => by simp [h]
  have gk : ∀ {i : Nat} {x : PEV × JV}, m[i]? = some x → (m.map (·.1))[i]? = some x.1 := fun h => by simp [h]
  rw [n1] at b1
  generalize m.map dvPV = da at *
  have hF := fun x => fmGet_p x p
  obtain ⟨u0, u1, u2, u3, e'⟩ := dvPE_agg p
  rw [e'] at hF ⊢
  have hlo := fun (i : Nat) (x : PEV × JV) (h : i < locL_ cmpPE (m.map (·.1)) p) (hx : m[i]? = some x) => locL_lt (m.map (·.1)) p i x.1 h (gk hx)
  have hhi := fun (i : Nat) (x : PEV × JV) (h : locL_ cmpPE (m.map (·.1)) p ≤ i) (hx : m[i]? = some x) => locL_ge ordPE hl hp hs i x.1 h (gk hx)
  have hle := locL_le (c := cmpPE) (m.map (·.1)) p
  rw [List.length_map] at hle
  rw [fndL_at]
  generalize hloc : locL_ cmpPE (m.map (·.1)) p = loc at *
  clear hs
  refine pcall_of_run Tryz.func190 rfl Tryz.ntmps190 rfl (fun X => ?_)
  repeat' (first
    | refine run_seq ?_
    | (refine k_pick rfl ?_; first | refine k_assignD rfl rfl ?_ | refine k_moveD rfl rfl ?_ | refine k_boxW rfl rfl rfl (by first | rfl | (simp only [cellsD]; rfl)) ?_ | refine k_lenD rfl rfl ?_)
    | refine run_opsEnd ?_
    | refine run_region ?_
    | refine run_block ?_
    | fail)
  refine run_loopS (ι := { j : Nat × Nat // j.1 ≤ loc ∧ loc ≤ j.2 ∧ j.2 ≤ m.length })
    (fun j => [(0, .dat (.sl 5 48 da)), (2, .dat (.val (.func (.func 196) #[] #[]))), (4, .ptr 4 0), (8, .dat (.val (.int .i64 ((da.length : Nat) : Int)))), (9, .dat (.val (.int .i64 (j.1.1 : Nat)))), (10, .dat (.val (.int .i64 (j.1.2 : Nat))))])
    (fun _ => [(4, .box 99 (cellsD (.agg [u0, u1, u2, u3])))]) (fun j => j.1.2 - j.1.1) ⟨(0, m.length), Nat.zero_le _, hle, Nat.le_refl _⟩ id ?_ ?_
  · (refine ⟨?_, ?_, by rfl⟩ <;> repeat' (first | exact trivial | exact ALe.ptr rfl | exact ALe.own rfl | exact ALe.elt rfl | exact BLe.boxD _ _ | exact BLe.row rfl | exact BLe.res | exact BLe.dead rfl | exact ALe.dat (PLe.refl _) | exact CLe.nil | refine And.intro ?_ ?_ | refine ALe.iface ?_ | refine ALe.clo ?_ | refine CLe.cons ?_ ?_ | refine BLe.box ?_ | refine BLe.row ?_ | exact ALe.any _ | refine ALe.dat (PLe.of_eq ?_)))
    all_goals (rw [n1])
  rintro ⟨⟨lo, hi⟩, h1, h2, h3⟩
  simp only at h1 h2 h3
  simp only
  by_cases hlt : lo < hi
  · have g1 : decide ((lo : Int) < (hi : Int)) = true := decide_eq_true (by omega)
    obtain ⟨h, hh⟩ : ∃ h, h = (lo + hi) / 2 := ⟨_, rfl⟩
    have w1 : IntKind.u64.wrap ((lo : Int) + (hi : Int)) = (lo : Int) + (hi : Int) := by
      simp [IntKind.wrap, IntKind.signed, IntKind.bits]; omega
    have w2 : ((lo : Int) + (hi : Int)) / 2 = ((h : Nat) : Int) := by omega
    have w3 : IntKind.i64.wrap ((h : Nat) : Int) = ((h : Nat) : Int) := by rw [IntKind.wrap_i64]; omega
    have w4 : (Lit.int .u64 ((h : Nat) : Int)).wf = true := by
      simp [Lit.wf, IntKind.min, IntKind.max, IntKind.signed, IntKind.bits]; omega
    obtain ⟨x, hx⟩ : ∃ x, m[h]? = some x := ⟨_, List.getElem?_eq_getElem (by omega)⟩
    have i1 := ga hx
    have cF := hF x
    have f1 := fits_PV x
    by_cases hc : cmpPE x.1 p < 0
    · have g2 : decide (cmpPE x.1 p < 0) = true := decide_eq_true hc
      have hb : h < loc := by
        refine Nat.lt_of_not_le fun hn => hhi h x hn hx hc
      repeat' (first
    | refine run_seq ?_
    | (refine k_pick rfl ?_; first | refine k_convE rfl rfl (by kernel_rfl) (by kernel_rfl) (by assumption) ?_ | refine k_shr1 rfl rfl rfl (by assumption) (by assumption) ?_ | refine k_assignD rfl rfl ?_ | refine k_moveD rfl rfl ?_ | refine k_bin2B rfl rfl rfl rfl ?_ | refine k_ariI rfl rfl rfl rfl (by first | omega | (dsimp only; omega)) ?_)
    | refine run_opsEnd ?_
    | refine run_region ?_
    | refine run_condT rfl (by first | rfl | assumption) ?_
    | refine run_block ?_
    | refine run_blkEnd ?_
    | refine run_skip ?_
    | refine run_drawC (by kernel_rfl) ?_
    | refine c_nil (And.intro (by kernel_rfl) ?_)
    | refine c_pick (d_indexAddrD rfl rfl rfl (by first | omega | (dsimp only; omega)) (by assumption)) ?_
    | refine c_pick (d_loadD rfl rfl (by first | rfl | assumption)) ?_
    | refine c_pick (d_moveD rfl rfl) ?_
    | refine c_pick (d_loadW rfl rfl rfl (by first | rfl | (simp only [cellsD]; rfl))) ?_
    | refine c_pick (d_bin2B rfl rfl rfl rfl) ?_
    | refine c_pick (d_callV rfl rfl (by kernel_rfl) rfl (by first | exact cF)) ?_
    | fail)
      refine run_again ?_
      refine ⟨⟨(h + 1, hi), by simp only; omega, by simp only; omega, h3⟩, id, by simp only; omega, ?_⟩
      (refine ⟨?_, ?_, by rfl⟩ <;> repeat' (first | exact trivial | exact ALe.ptr rfl | exact ALe.own rfl | exact ALe.elt rfl | exact BLe.boxD _ _ | exact BLe.row rfl | exact BLe.res | exact BLe.dead rfl | exact ALe.dat (PLe.refl _) | exact CLe.nil | refine And.intro ?_ ?_ | refine ALe.iface ?_ | refine ALe.clo ?_ | refine CLe.cons ?_ ?_ | refine BLe.box ?_ | refine BLe.row ?_ | exact ALe.any _ | refine ALe.dat (PLe.of_eq ?_)))
    · have g2 : decide (cmpPE x.1 p < 0) = false := decide_eq_false hc
      have hb : loc ≤ h := by
        refine Nat.le_of_not_lt fun hn => hc (hlo h x hn hx)
      repeat' (first
    | refine run_seq ?_
    | (refine k_pick rfl ?_; first | refine k_convE rfl rfl (by kernel_rfl) (by kernel_rfl) (by assumption) ?_ | refine k_shr1 rfl rfl rfl (by assumption) (by assumption) ?_ | refine k_assignD rfl rfl ?_ | refine k_moveD rfl rfl ?_ | refine k_bin2B rfl rfl rfl rfl ?_ | refine k_ariI rfl rfl rfl rfl (by first | omega | (dsimp only; omega)) ?_)
    | refine run_opsEnd ?_
    | refine run_region ?_
    | refine run_condT rfl (by first | rfl | assumption) ?_
    | refine run_condF rfl (by first | rfl | assumption) ?_
    | refine run_block ?_
    | refine run_blkEnd ?_
    | refine run_skip ?_
    | refine run_drawC (by kernel_rfl) ?_
    | refine c_nil (And.intro (by kernel_rfl) ?_)
    | refine c_pick (d_indexAddrD rfl rfl rfl (by first | omega | (dsimp only; omega)) (by assumption)) ?_
    | refine c_pick (d_loadD rfl rfl (by first | rfl | assumption)) ?_
    | refine c_pick (d_moveD rfl rfl) ?_
    | refine c_pick (d_loadW rfl rfl rfl (by first | rfl | (simp only [cellsD]; rfl))) ?_
    | refine c_pick (d_bin2B rfl rfl rfl rfl) ?_
    | refine c_pick (d_callV rfl rfl (by kernel_rfl) rfl (by first | exact cF)) ?_
    | fail)
      refine run_again ?_
      refine ⟨⟨(lo, h), h1, hb, by simp only; omega⟩, id, by simp only; omega, ?_⟩
      (refine ⟨?_, ?_, by rfl⟩ <;> repeat' (first | exact trivial | exact ALe.ptr rfl | exact ALe.own rfl | exact ALe.elt rfl | exact BLe.boxD _ _ | exact BLe.row rfl | exact BLe.res | exact BLe.dead rfl | exact ALe.dat (PLe.refl _) | exact CLe.nil | refine And.intro ?_ ?_ | refine ALe.iface ?_ | refine ALe.clo ?_ | refine CLe.cons ?_ ?_ | refine BLe.box ?_ | refine BLe.row ?_ | exact ALe.any _ | refine ALe.dat (PLe.of_eq ?_)))
  · have g1 : decide ((lo : Int) < (hi : Int)) = false := decide_eq_false (by omega)
    obtain rfl : lo = loc := by omega
    by_cases hin : lo < m.length
    · have g2 : decide ((lo : Int) < ((da.length : Nat) : Int)) = true := decide_eq_true (by omega)
      obtain ⟨x, hx⟩ : ∃ x, m[lo]? = some x := ⟨_, List.getElem?_eq_getElem hin⟩
      have i1 := ga hx
      have cF := hF x
      have f1 := fits_PV x
      rw [gk hx]
      repeat' (first
    | refine run_seq ?_
    | (refine k_pick rfl ?_; first | refine k_moveD rfl rfl ?_ | refine k_bin2B rfl rfl rfl rfl ?_)
    | refine run_opsEnd ?_
    | refine run_region ?_
    | refine run_condF rfl (by first | rfl | assumption) ?_
    | refine run_exit rfl ?_
    | refine run_retOk (resOk_tmp2 rfl rfl rfl ?_ ?_)
    | refine run_drawC (by kernel_rfl) ?_
    | refine c_nil (And.intro (by kernel_rfl) ?_)
    | refine c_pick (d_assignD rfl rfl) ?_
    | refine c_pick (d_moveD rfl rfl) ?_
    | refine c_pick (d_bin2B rfl rfl rfl rfl) ?_
    | refine c_pick (d_pickT rfl rfl (by first | rfl | assumption) rfl) ?_
    | refine c_pickY rfl (by first | rfl | assumption) (d_indexAddrD rfl rfl rfl (by first | omega | (dsimp only; omega)) (by assumption)) ?_
    | refine c_pickY rfl (by first | rfl | assumption) (d_loadD rfl rfl (by first | rfl | assumption)) ?_
    | refine c_pickY rfl (by first | rfl | assumption) (d_moveD rfl rfl) ?_
    | refine c_pickY rfl (by first | rfl | assumption) (d_loadW rfl rfl rfl (by first | rfl | (simp only [cellsD]; rfl))) ?_
    | refine c_pickY rfl (by first | rfl | assumption) (d_bin2B rfl rfl rfl rfl) ?_
    | refine c_pickY rfl (by first | rfl | assumption) (d_callV rfl rfl (by kernel_rfl) rfl (by first | exact cF)) ?_
    | fail)
      all_goals exact PLe.refl _
    · have g2 : decide ((lo : Int) < ((da.length : Nat) : Int)) = false := decide_eq_false (by omega)
      rw [List.getElem?_eq_none (by rw [List.length_map]; omega)]
      repeat' (first
    | refine run_seq ?_
    | (refine k_pick rfl ?_; first | refine k_moveD rfl rfl ?_ | refine k_bin2B rfl rfl rfl rfl ?_)
    | refine run_opsEnd ?_
    | refine run_region ?_
    | refine run_condF rfl (by first | rfl | assumption) ?_
    | refine run_exit rfl ?_
    | refine run_retOk (resOk_tmp2 rfl rfl rfl ?_ ?_)
    | refine run_drawC (by kernel_rfl) ?_
    | refine c_nil (And.intro (by kernel_rfl) ?_)
    | refine c_pick (d_assignD rfl rfl) ?_
    | refine c_pick (d_moveD rfl rfl) ?_
    | refine c_pick (d_bin2B rfl rfl rfl rfl) ?_
    | refine c_pick (d_pickF rfl rfl (by first | rfl | assumption) rfl) ?_
    | refine c_passT rfl (by first | rfl | assumption) rfl ?_
    | fail)
      all_goals exact PLe.refl _
theorem fmInsert_p (x : PEV × JV) (p : PEV) : PCall Tryz.prog 191 [dvPV x, dvPE p] (.val (.int .i64 (cmpPE x.1 p))) := by
  have c := peCompare_p x.1 p
  obtain ⟨d0, d1, d2, d3, e⟩ := peC_four x.1
  obtain ⟨u0, u1, u2, u3, e'⟩ := dvPE_agg p
  unfold dvPV
  rw [dvPE_C x.1, e, e'] at c
  rw [e, e']
  refine pcall_of_run Tryz.func191 rfl Tryz.ntmps191 rfl (fun X => ?_)
  repeat' (first
    | refine run_seq ?_
    | (refine k_pick rfl ?_; first | refine k_assignD rfl rfl ?_ | refine k_fieldAddrB rfl rfl rfl ?_ | refine k_loadW rfl rfl rfl (by first | rfl | (simp only [cellsD]; rfl)) ?_ | refine k_loadBD rfl rfl rfl (by first | rfl | (simp only [cellsD]; rfl)) ?_ | refine k_boxW rfl rfl rfl (by first | rfl | (simp only [cellsD]; rfl)) ?_ | refine k_call rfl (by kernel_rfl) rfl (by first | exact c) ?_)
    | refine run_opsEnd ?_
    | refine run_region ?_
    | refine run_retOk (resOk_tmp rfl rfl ?_)
    | fail)
  all_goals exact PLe.refl _
set_option maxHeartbeats 8000000 in
/-- slices.BinarySearchFunc over a map. -/
theorem bsmInsert_p (m : List (PEV × JV)) (p : PEV) (hl : ∀ x ∈ m.map (·.1), OPE x) (hp : OPE p) (hs : Srt cmpPE (m.map (·.1))) :
    PCall Tryz.prog 190 [.sl 5 48 (m.map dvPV), dvPE p, .val (.func (.func 191) #[] #[])] (.tup [.val (.int .i64 ((locL_ cmpPE (m.map (·.1)) p : Nat) : Int)), .val (.bool (fndL_ cmpPE (m.map (·.1)) p))]) := by
  refine pcall_fits fun hfit => ?_
  have b1 := (hfit (.sl 5 48 (m.map dvPV)) (by simp)).sl.2.1
  clear hfit
  have n1 : (m.map dvPV).length = m.length := by simp
  have ga : ∀ {i : Nat} {x : PEV × JV}, m[i]? = some x → (m.map dvPV)[((i : Nat) : Int).toNat]? = some (dvPV x) := fun h => by simp [h]
  have gk : ∀ {i : Nat} {x : PEV × JV}, m[i]? = some x → (m.map (·.1))[i]? = some x.1 := fun h => by simp [h]
  rw [n1] at b1
  generalize m.map dvPV = da at *
  have hF := fun x => fmInsert_p x p
  obtain ⟨u0, u1, u2, u3, e'⟩ := dvPE_agg p
  rw [e'] at hF ⊢
  have hlo := fun (i : Nat) (x : PEV × JV) (h : i < locL_ cmpPE (m.map (·.1)) p) (hx : m[i]? = some x) => locL_lt (m.map (·.1)) p i x.1 h (gk hx)
  have hhi := fun (i : Nat) (x : PEV × JV) (h : locL_ cmpPE (m.map (·.1)) p ≤ i) (hx : m[i]? = some x) => locL_ge ordPE hl hp hs i x.1 h (gk hx)
  have hle := locL_le (c := cmpPE) (m.map (·.1)) p
  rw [List.length_map] at hle
  rw [fndL_at]
  generalize hloc : locL_ cmpPE (m.map (·.1)) p = loc at *
  clear hs
  refine pcall_of_run Tryz.func190 rfl Tryz.ntmps190 rfl (fun X => ?_)
  repeat' (first
    | refine run_seq ?_
    | (refine k_pick rfl ?_; first | refine k_assignD rfl rfl ?_ | refine k_moveD rfl rfl ?_ | refine k_boxW rfl rfl rfl (by first | rfl | (simp only [cellsD]; rfl)) ?_ | refine k_lenD rfl rfl ?_)
    | refine run_opsEnd ?_
    | refine run_region ?_
    | refine run_block ?_
    | fail)
  refine run_loopS (ι := { j : Nat × Nat // j.1 ≤ loc ∧ loc ≤ j.2 ∧ j.2 ≤ m.length })
    (fun j => [(0, .dat (.sl 5 48 da)), (2, .dat (.val (.func (.func 191) #[] #[]))), (4, .ptr 4 0), (8, .dat (.val (.int .i64 ((da.length : Nat) : Int)))), (9, .dat (.val (.int .i64 (j.1.1 : Nat)))), (10, .dat (.val (.int .i64 (j.1.2 : Nat))))])
    (fun _ => [(4, .box 99 (cellsD (.agg [u0, u1, u2, u3])))]) (fun j => j.1.2 - j.1.1) ⟨(0, m.length), Nat.zero_le _, hle, Nat.le_refl _⟩ id ?_ ?_
  · (refine ⟨?_, ?_, by rfl⟩ <;> repeat' (first | exact trivial | exact ALe.ptr rfl | exact ALe.own rfl | exact ALe.elt rfl | exact BLe.boxD _ _ | exact BLe.row rfl | exact BLe.res | exact BLe.dead rfl | exact ALe.dat (PLe.refl _) | exact CLe.nil | refine And.intro ?_ ?_ | refine ALe.iface ?_ | refine ALe.clo ?_ | refine CLe.cons ?_ ?_ | refine BLe.box ?_ | refine BLe.row ?_ | exact ALe.any _ | refine ALe.dat (PLe.of_eq ?_)))
    all_goals (rw [n1])
  rintro ⟨⟨lo, hi⟩, h1, h2, h3⟩
  simp only at h1 h2 h3
  simp only
  by_cases hlt : lo < hi
  · have g1 : decide ((lo : Int) < (hi : Int)) = true := decide_eq_true (by omega)
    obtain ⟨h, hh⟩ : ∃ h, h = (lo + hi) / 2 := ⟨_, rfl⟩
    have w1 : IntKind.u64.wrap ((lo : Int) + (hi : Int)) = (lo : Int) + (hi : Int) := by
      simp [IntKind.wrap, IntKind.signed, IntKind.bits]; omega
    have w2 : ((lo : Int) + (hi : Int)) / 2 = ((h : Nat) : Int) := by omega
    have w3 : IntKind.i64.wrap ((h : Nat) : Int) = ((h : Nat) : Int) := by rw [IntKind.wrap_i64]; omega
    have w4 : (Lit.int .u64 ((h : Nat) : Int)).wf = true := by
      simp [Lit.wf, IntKind.min, IntKind.max, IntKind.signed, IntKind.bits]; omega
    obtain ⟨x, hx⟩ : ∃ x, m[h]? = some x := ⟨_, List.getElem?_eq_getElem (by omega)⟩
    have i1 := ga hx
    have cF := hF x
    have f1 := fits_PV x
    by_cases hc : cmpPE x.1 p < 0
    · have g2 : decide (cmpPE x.1 p < 0) = true := decide_eq_true hc
      have hb : h < loc := by
        refine Nat.lt_of_not_le fun hn => hhi h x hn hx hc
      repeat' (first
    | refine run_seq ?_
    | (refine k_pick rfl ?_; first | refine k_convE rfl rfl (by kernel_rfl) (by kernel_rfl) (by assumption) ?_ | refine k_shr1 rfl rfl rfl (by assumption) (by assumption) ?_ | refine k_assignD rfl rfl ?_ | refine k_moveD rfl rfl ?_ | refine k_bin2B rfl rfl rfl rfl ?_ | refine k_ariI rfl rfl rfl rfl (by first | omega | (dsimp only; omega)) ?_)
    | refine run_opsEnd ?_
    | refine run_region ?_
    | refine run_condT rfl (by first | rfl | assumption) ?_
    | refine run_block ?_
    | refine run_blkEnd ?_
    | refine run_skip ?_
    | refine run_drawC (by kernel_rfl) ?_
    | refine c_nil (And.intro (by kernel_rfl) ?_)
    | refine c_pick (d_indexAddrD rfl rfl rfl (by first | omega | (dsimp only; omega)) (by assumption)) ?_
    | refine c_pick (d_loadD rfl rfl (by first | rfl | assumption)) ?_
    | refine c_pick (d_moveD rfl rfl) ?_
    | refine c_pick (d_loadW rfl rfl rfl (by first | rfl | (simp only [cellsD]; rfl))) ?_
    | refine c_pick (d_bin2B rfl rfl rfl rfl) ?_
    | refine c_pick (d_callV rfl rfl (by kernel_rfl) rfl (by first | exact cF)) ?_
    | fail)
      refine run_again ?_
      refine ⟨⟨(h + 1, hi), by simp only; omega, by simp only; omega, h3⟩, id, by simp only; omega, ?_⟩
      (refine ⟨?_, ?_, by rfl⟩ <;> repeat' (first | exact trivial | exact ALe.ptr rfl | exact ALe.own rfl | exact ALe.elt rfl | exact BLe.boxD _ _ | exact BLe.row rfl | exact BLe.res | exact BLe.dead rfl | exact ALe.dat (PLe.refl _) | exact CLe.nil | refine And.intro ?_ ?_ | refine ALe.iface ?_ | refine ALe.clo ?_ | refine CLe.cons ?_ ?_ | refine BLe.box ?_ | refine BLe.row ?_ | exact ALe.any _ | refine ALe.dat (PLe.of_eq ?_)))
    · have g2 : decide (cmpPE x.1 p < 0) = false := decide_eq_false hc
      have hb : loc ≤ h := by
        refine Nat.le_of_not_lt fun hn => hc (hlo h x hn hx)
      repeat' (first
    | refine run_seq ?_
    | (refine k_pick rfl ?_; first | refine k_convE rfl rfl (by kernel_rfl) (by kernel_rfl) (by assumption) ?_ | refine k_shr1 rfl rfl rfl (by assumption) (by assumption) ?_ | refine k_assignD rfl rfl ?_ | refine k_moveD rfl rfl ?_ | refine k_bin2B rfl rfl rfl rfl ?_ | refine k_ariI rfl rfl rfl rfl (by first | omega | (dsimp only; omega)) ?_)
    | refine run_opsEnd ?_
    | refine run_region ?_
    | refine run_condT rfl (by first | rfl | assumption) ?_
    | refine run_condF rfl (by first | rfl | assumption) ?_
    | refine run_block ?_
    | refine run_blkEnd ?_
    | refine run_skip ?_
    | refine run_drawC (by kernel_rfl) ?_
    | refine c_nil (And.intro (by kernel_rfl) ?_)
    | refine c_pick (d_indexAddrD rfl rfl rfl (by first | omega | (dsimp only; omega)) (by assumption)) ?_
    | refine c_pick (d_loadD rfl rfl (by first | rfl | assumption)) ?_
    | refine c_pick (d_moveD rfl rfl) ?_
    | refine c_pick (d_loadW rfl rfl rfl (by first | rfl | (simp only [cellsD]; rfl))) ?_
    | refine c_pick (d_bin2B rfl rfl rfl rfl) ?_
    | refine c_pick (d_callV rfl rfl (by kernel_rfl) rfl (by first | exact cF)) ?_
    | fail)
      refine run_again ?_
      refine ⟨⟨(lo, h), h1, hb, by simp only; omega⟩, id, by simp only; omega, ?_⟩
      (refine ⟨?_, ?_, by rfl⟩ <;> repeat' (first | exact trivial | exact ALe.ptr rfl | exact ALe.own rfl | exact ALe.elt rfl | exact BLe.boxD _ _ | exact BLe.row rfl | exact BLe.res | exact BLe.dead rfl | exact ALe.dat (PLe.refl _) | exact CLe.nil | refine And.intro ?_ ?_ | refine ALe.iface ?_ | refine ALe.clo ?_ | refine CLe.cons ?_ ?_ | refine BLe.box ?_ | refine BLe.row ?_ | exact ALe.any _ | refine ALe.dat (PLe.of_eq ?_)))
  · have g1 : decide ((lo : Int) < (hi : Int)) = false := decide_eq_false (by omega)
    obtain rfl : lo = loc := by omega
    by_cases hin : lo < m.length
    · have g2 : decide ((lo : Int) < ((da.length : Nat) : Int)) = true := decide_eq_true (by omega)
      obtain ⟨x, hx⟩ : ∃ x, m[lo]? = some x := ⟨_, List.getElem?_eq_getElem hin⟩
      have i1 := ga hx
      have cF := hF x
      have f1 := fits_PV x
      rw [gk hx]
      repeat' (first
    | refine run_seq ?_
    | (refine k_pick rfl ?_; first | refine k_moveD rfl rfl ?_ | refine k_bin2B rfl rfl rfl rfl ?_)
    | refine run_opsEnd ?_
    | refine run_region ?_
    | refine run_condF rfl (by first | rfl | assumption) ?_
    | refine run_exit rfl ?_
    | refine run_retOk (resOk_tmp2 rfl rfl rfl ?_ ?_)
    | refine run_drawC (by kernel_rfl) ?_
    | refine c_nil (And.intro (by kernel_rfl) ?_)
    | refine c_pick (d_assignD rfl rfl) ?_
    | refine c_pick (d_moveD rfl rfl) ?_
    | refine c_pick (d_bin2B rfl rfl rfl rfl) ?_
    | refine c_pick (d_pickT rfl rfl (by first | rfl | assumption) rfl) ?_
    | refine c_pickY rfl (by first | rfl | assumption) (d_indexAddrD rfl rfl rfl (by first | omega | (dsimp only; omega)) (by assumption)) ?_
    | refine c_pickY rfl (by first | rfl | assumption) (d_loadD rfl rfl (by first | rfl | assumption)) ?_
    | refine c_pickY rfl (by first | rfl | assumption) (d_moveD rfl rfl) ?_
    | refine c_pickY rfl (by first | rfl | assumption) (d_loadW rfl rfl rfl (by first | rfl | (simp only [cellsD]; rfl))) ?_
    | refine c_pickY rfl (by first | rfl | assumption) (d_bin2B rfl rfl rfl rfl) ?_
    | refine c_pickY rfl (by first | rfl | assumption) (d_callV rfl rfl (by kernel_rfl) rfl (by first | exact cF)) ?_
    | fail)
      all_goals exact PLe.refl _
    · have g2 : decide ((lo : Int) < ((da.length : Nat) : Int)) = false := decide_eq_false (by omega)
      rw [List.getElem?_eq_none (by rw [List.length_map]; omega)]
      repeat' (first
    | refine run_seq ?_
    | (refine k_pick rfl ?_; first | refine k_moveD rfl rfl ?_ | refine k_bin2B rfl rfl rfl rfl ?_)
    | refine run_opsEnd ?_
    | refine run_region ?_
    | refine run_condF rfl (by first | rfl | assumption) ?_
    | refine run_exit rfl ?_
    | refine run_retOk (resOk_tmp2 rfl rfl rfl ?_ ?_)
    | refine run_drawC (by kernel_rfl) ?_
    | refine c_nil (And.intro (by kernel_rfl) ?_)
    | refine c_pick (d_assignD rfl rfl) ?_
    | refine c_pick (d_moveD rfl rfl) ?_
    | refine c_pick (d_bin2B rfl rfl rfl rfl) ?_
    | refine c_pick (d_pickF rfl rfl (by first | rfl | assumption) rfl) ?_
    | refine c_passT rfl (by first | rfl | assumption) rfl ?_
    | fail)
      all_goals exact PLe.refl _
def gotD : Option JV → PD
  | some j => dvV j
  | none => .val .nilIface
set_option maxHeartbeats 4000000 in
theorem mapGetI_p (m : List (PEV × JV)) (p : PEV) (hl : ∀ x ∈ m.map (·.1), OPE x) (hp : OPE p) (hs : Srt cmpPE (m.map (·.1))) : PCall Tryz.prog 133 [.ptr (.agg [.sl 5 48 (m.map dvPV)]), dvPE p] (.tup [gotD (getR cmpPE m p), .val (.bool (getR cmpPE m p).isSome)]) := by
  have c := bsmGet_p m p hl hp hs
  have ga : ∀ {i : Nat} {x : PEV × JV}, m[i]? = some x → (m.map dvPV)[((i : Nat) : Int).toNat]? = some (dvPV x) := fun h => by simp [h]
  obtain ⟨u0, u1, u2, u3, e⟩ := dvPE_agg p
  rw [e] at c ⊢
  cases hf : fndL_ cmpPE (m.map (·.1)) p with
  | true =>
    obtain ⟨x, g1, _, g3⟩ := insM_fnd m p (.null) hf
    rw [hf] at c
    rw [g3]
    obtain ⟨d0, d1, d2, d3, e1⟩ := peC_four x.1
    have i1 : (m.map dvPV)[((locL_ cmpPE (m.map (·.1)) p : Nat) : Int).toNat]? = some (.agg [d0, d1, d2, d3, dvV x.2]) := by
      rw [ga g1]; show some (dvPV x) = _; unfold dvPV; rw [e1]; rfl
    generalize m.map dvPV = da at *
    generalize locL_ cmpPE (m.map (·.1)) p = loc at *
    refine pcall_of_run Tryz.func133 rfl Tryz.ntmps133 rfl (fun X => ?_)
    repeat' (first
    | refine run_seq ?_
    | (refine k_pick rfl ?_; first | refine k_indexAddrD rfl rfl rfl (by first | omega | (dsimp only; omega)) (by assumption) ?_ | refine k_assignD rfl rfl ?_ | refine k_moveD rfl rfl ?_ | refine k_boxW rfl rfl rfl (by first | rfl | (simp only [cellsD]; rfl)) ?_ | refine k_nilD rfl rfl ?_ | refine k_fieldAddrD rfl rfl rfl rfl (by first | rfl | (simp only [cellsD]; rfl)) ?_ | refine k_loadD rfl rfl (by first | rfl | (simp only [cellsD]; rfl)) ?_)
    | refine run_opsEnd ?_
    | refine run_region ?_
    | refine run_condT rfl (by first | rfl | assumption) ?_
    | refine run_retOk (resOk_tmp2 rfl rfl rfl ?_ ?_)
    | refine run_drawC (by kernel_rfl) ?_
    | refine c_nil (And.intro (by kernel_rfl) ?_)
    | refine c_pick (d_assignD rfl rfl) ?_
    | refine c_pick (d_moveD rfl rfl) ?_
    | refine c_pick (d_loadW rfl rfl rfl (by first | rfl | (simp only [cellsD]; rfl))) ?_
    | refine c_pick (d_call rfl (by kernel_rfl) rfl (by first | exact c)) ?_
    | refine c_pick (d_extract rfl rfl rfl) ?_
    | refine c_pick (d_nilD rfl rfl) ?_
    | refine c_pick (d_fieldAddrD rfl rfl rfl rfl (by first | rfl | (simp only [cellsD]; rfl))) ?_
    | refine c_pick (d_loadD rfl rfl (by first | rfl | (simp only [cellsD]; rfl))) ?_
    | fail)
    all_goals exact PLe.refl _
  | false =>
    rw [hf] at c
    rw [(insM_not m p .null hf).2]
    generalize m.map dvPV = da at *
    generalize locL_ cmpPE (m.map (·.1)) p = loc at *
    refine pcall_of_run Tryz.func133 rfl Tryz.ntmps133 rfl (fun X => ?_)
    repeat' (first
    | refine run_seq ?_
    | (refine k_pick rfl ?_; first | refine k_assignD rfl rfl ?_ | refine k_moveD rfl rfl ?_ | refine k_boxW rfl rfl rfl (by first | rfl | (simp only [cellsD]; rfl)) ?_)
    | refine run_opsEnd ?_
    | refine run_region ?_
    | refine run_condF rfl (by first | rfl | assumption) ?_
    | refine run_skip ?_
    | refine run_retOk (resOk_tmp2 rfl rfl rfl ?_ ?_)
    | refine run_drawC (by kernel_rfl) ?_
    | refine c_nil (And.intro (by kernel_rfl) ?_)
    | refine c_pick (d_assignD rfl rfl) ?_
    | refine c_pick (d_moveD rfl rfl) ?_
    | refine c_pick (d_loadW rfl rfl rfl (by first | rfl | (simp only [cellsD]; rfl))) ?_
    | refine c_pick (d_call rfl (by kernel_rfl) rfl (by first | exact c)) ?_
    | refine c_pick (d_extract rfl rfl rfl) ?_
    | refine c_pick (d_nilD rfl rfl) ?_
    | refine c_pick (d_fieldAddrD rfl rfl rfl rfl (by first | rfl | (simp only [cellsD]; rfl))) ?_
    | refine c_pick (d_loadD rfl rfl (by first | rfl | (simp only [cellsD]; rfl))) ?_
    | fail)
    all_goals exact PLe.refl _
theorem mapGet_p (m : List (PEV × JV)) (p : PEV) (hl : ∀ x ∈ m.map (·.1), OPE x) (hp : OPE p) (hs : Srt cmpPE (m.map (·.1))) : PCall Tryz.prog 69 [.ptr (.agg [.sl 5 48 (m.map dvPV)]), dvPE p] (.tup [gotD (getR cmpPE m p), .val (.bool (getR cmpPE m p).isSome)]) := by
  have c := mapGetI_p m p hl hp hs
  obtain ⟨u0, u1, u2, u3, e⟩ := dvPE_agg p
  rw [e] at c ⊢
  generalize m.map dvPV = da at *
  cases hg : getR cmpPE m p with
  | some j =>
    rw [hg] at c
    refine pcall_of_run Tryz.func69 rfl Tryz.ntmps69 rfl (fun X => ?_)
    repeat' (first
    | refine run_seq ?_
    | (refine k_pick rfl ?_; first | refine k_taI rfl rfl (by kernel_rfl) ?_ | refine k_assignD rfl rfl ?_ | refine k_moveD rfl rfl ?_ | refine k_boxW rfl rfl rfl (by first | rfl | (simp only [cellsD]; rfl)) ?_ | refine k_not rfl rfl ?_)
    | refine run_opsEnd ?_
    | refine run_region ?_
    | refine run_condF rfl (by first | rfl | assumption) ?_
    | refine run_skip ?_
    | refine run_retOk (resOk_tmp2 rfl rfl rfl ?_ ?_)
    | refine run_drawC (by kernel_rfl) ?_
    | refine c_nil (And.intro (by kernel_rfl) ?_)
    | refine c_pick (d_assignD rfl rfl) ?_
    | refine c_pick (d_moveD rfl rfl) ?_
    | refine c_pick (d_loadW rfl rfl rfl (by first | rfl | (simp only [cellsD]; rfl))) ?_
    | refine c_pick (d_call rfl (by kernel_rfl) rfl (by first | exact c)) ?_
    | refine c_pick (d_extract rfl rfl rfl) ?_
    | refine c_pick (d_nilD rfl rfl) ?_
    | refine c_pick (d_fieldAddrD rfl rfl rfl rfl (by first | rfl | (simp only [cellsD]; rfl))) ?_
    | fail)
    all_goals exact PLe.refl _
  | none =>
    rw [hg] at c
    refine pcall_of_run Tryz.func69 rfl Tryz.ntmps69 rfl (fun X => ?_)
    repeat' (first
    | refine run_seq ?_
    | (refine k_pick rfl ?_; first | refine k_assignD rfl rfl ?_ | refine k_moveD rfl rfl ?_ | refine k_boxW rfl rfl rfl (by first | rfl | (simp only [cellsD]; rfl)) ?_ | refine k_not rfl rfl ?_)
    | refine run_opsEnd ?_
    | refine run_region ?_
    | refine run_condT rfl (by first | rfl | assumption) ?_
    | refine run_retOk (resOk_tmp2 rfl rfl rfl ?_ ?_)
    | refine run_drawC (by kernel_rfl) ?_
    | refine c_nil (And.intro (by kernel_rfl) ?_)
    | refine c_pick (d_assignD rfl rfl) ?_
    | refine c_pick (d_moveD rfl rfl) ?_
    | refine c_pick (d_loadW rfl rfl rfl (by first | rfl | (simp only [cellsD]; rfl))) ?_
    | refine c_pick (d_call rfl (by kernel_rfl) rfl (by first | exact c)) ?_
    | refine c_pick (d_extract rfl rfl rfl) ?_
    | refine c_pick (d_nilD rfl rfl) ?_
    | refine c_pick (d_fieldAddrD rfl rfl rfl rfl (by first | rfl | (simp only [cellsD]; rfl))) ?_
    | fail)
    all_goals exact PLe.refl _
end Go.Proofs.YtgmahieoiifpfaaGreat
end
section
set_option linter.unusedVariables false
namespace Go.Proofs.YtgmahieoiifpfaaGreat
open Go.RowKit
set_option linter.unusedSimpArgs false
theorem pv_set {m : List (PEV × JV)} {loc : Nat} {x : PEV × JV} {j : JV} {d0 d1 d2 d3 : PD} (e : peC x.1 = [d0, d1, d2, d3]) : (m.set loc (x.1, j)).map dvPV = (m.map dvPV).set loc (.agg ([d0, d1, d2, d3, dvV x.2].set 4 (dvV j))) := by
  rw [List.map_set]
  congr 1
  unfold dvPV
  rw [e]
  rfl
set_option maxHeartbeats 8000000 in
theorem mapInsI_c (T : TypeId) (m : List (PEV × JV)) (p : PEV) (j : JV) (hl : ∀ x ∈ m.map (·.1), OPE x) (hp : OPE p) (hs : Srt cmpPE (m.map (·.1))) (hb : (m.length + 1) * 48 ≤ 140737488351232) :
    ACall1 Tryz.prog 129 [.ptr 1000 0, .dat (dvPE p), .dat (dvV j)] [(1000, .box T [.own 1001]), (1001, .row 268 5 48 (m.map dvPV))] (.dat (.tup []))
      [(1000, .box T [.own 0]), (0, .row 268 5 48 ((insM cmpPE m p j).map dvPV)), (1001, .dead)] := by
  have c := bsmInsert_p m p hl hp hs
  have n1 : (m.map dvPV).length = m.length := by simp
  have hle := locL_le (c := cmpPE) (m.map (·.1)) p
  rw [List.length_map] at hle
  have hone := one_dvV j
  obtain ⟨u0, u1, u2, u3, e⟩ := peC_four p
  cases hf : fndL_ cmpPE (m.map (·.1)) p with
  | true =>
    obtain ⟨x, g1, g2, _⟩ := insM_fnd m p j hf
    obtain ⟨d0, d1, d2, d3, e1⟩ := peC_four x.1
    have i1 : (m.map dvPV)[locL_ cmpPE (m.map (·.1)) p]? = some (.agg [d0, d1, d2, d3, dvV x.2]) := by
      rw [List.getElem?_map, g1]; show some (dvPV x) = _; unfold dvPV; rw [e1]; rfl
    have i2 : locL_ cmpPE (m.map (·.1)) p < (m.map dvPV).length := (List.getElem?_eq_some_iff.1 i1).1
    rw [g2, pv_set e1]
    rw [hf] at c
    rw [dvPE_C, e] at c ⊢
    clear g1 g2 hle
    generalize m.map dvPV = da at *
    generalize locL_ cmpPE (m.map (·.1)) p = loc at *
    refine acall_of_run Tryz.func129 rfl Tryz.ntmps129 rfl (fun X => ?_)
    repeat' (first
    | refine run_seq ?_
    | (refine k_pick rfl ?_; first | refine k_indexN rfl rfl rfl rfl (by assumption) ?_ | refine k_fieldE rfl rfl rfl rfl ?_ | refine k_storeN rfl rfl (by assumption) rfl rfl rfl (by assumption) ?_ | refine k_moveD rfl rfl ?_ | refine k_fieldAddrB rfl rfl rfl ?_ | refine k_boxW rfl rfl rfl (by first | rfl | (simp only [cellsD]; rfl)) ?_ | refine k_nilB rfl rfl ?_ | refine k_moveP rfl rfl ?_ | refine k_loadBO rfl rfl rfl rfl ?_)
    | refine run_opsEnd ?_
    | refine run_region ?_
    | refine run_condT rfl (by first | rfl | assumption) ?_
    | refine run_drawC (by kernel_rfl) ?_
    | refine c_nil (And.intro (by kernel_rfl) ?_)
    | refine c_pick (d_callZ gV rfl (by kernel_rfl) rfl c Flat.tup2) ?_
    | refine c_pick (d_assignD rfl rfl) ?_
    | refine c_pick (d_moveD rfl rfl) ?_
    | refine c_pick (d_fieldAddrB rfl rfl rfl) ?_
    | refine c_pick (d_loadW rfl rfl rfl (by first | rfl | (simp only [cellsD]; rfl))) ?_
    | refine c_pick (d_extract rfl rfl rfl) ?_
    | refine c_pick (d_nilB rfl rfl) ?_
    | refine c_pick (d_moveP rfl rfl) ?_
    | refine c_pick (d_loadBO rfl rfl rfl rfl) ?_
    | fail)
    refine run_retA () (fun j => if j = 0 then 1001 else j) (tm := []) ?_ (resA_none rfl)
    (refine ⟨?_, ?_, by rfl⟩ <;> repeat' (first | exact trivial | exact ALe.ptr rfl | exact ALe.own rfl | exact ALe.elt rfl | exact BLe.boxD _ _ | exact BLe.row rfl | exact BLe.res | exact BLe.dead rfl | exact ALe.dat (PLe.refl _) | exact CLe.nil | refine And.intro ?_ ?_ | refine ALe.iface ?_ | refine ALe.clo ?_ | refine CLe.cons ?_ ?_ | refine BLe.box ?_ | refine BLe.row ?_ | exact ALe.any _ | refine ALe.dat (PLe.of_eq ?_)))
  | false =>
    rw [hf] at c
    rw [(insM_not m p j hf).1, List.map_append, List.map_cons, List.map_take, List.map_drop]
    have e3 : dvPV (p, j) = .agg [u0, u1, u2, u3, dvV j] := by unfold dvPV; rw [e]; rfl
    rw [e3]
    rw [dvPE_C, e] at c ⊢
    generalize m.map dvPV = da at *
    generalize locL_ cmpPE (m.map (·.1)) p = loc at *
    have q0 : loc ≤ da.length := by omega
    have q1 : (da.length + 1) * 48 ≤ 140737488351232 := by omega
    have q2 : da.length + 1 ≤ 140737488351232 := by omega
    refine acall_of_run Tryz.func129 rfl Tryz.ntmps129 rfl (fun X => ?_)
    repeat' (first
    | refine run_seq ?_
    | (refine k_pick rfl ?_; first | refine k_moveD rfl rfl ?_ | refine k_boxW rfl rfl rfl (by first | rfl | (simp only [cellsD]; rfl)) ?_)
    | refine run_opsEnd ?_
    | refine run_region ?_
    | refine run_condF rfl (by first | rfl | assumption) ?_
    | refine run_skip ?_
    | refine run_drawC (by kernel_rfl) ?_
    | refine c_nil (And.intro (by kernel_rfl) ?_)
    | refine c_pick (d_callZ gV rfl (by kernel_rfl) rfl c Flat.tup2) ?_
    | refine c_pick (d_insert rfl rfl rfl rfl rfl rfl rfl rfl (by assumption) (by assumption) (by assumption)) ?_
    | refine c_pick (d_assignD rfl rfl) ?_
    | refine c_pick (d_moveD rfl rfl) ?_
    | refine c_pick (d_fieldAddrB rfl rfl rfl) ?_
    | refine c_pick (d_loadW rfl rfl rfl (by first | rfl | (simp only [cellsD]; rfl))) ?_
    | refine c_pick (d_extract rfl rfl rfl) ?_
    | refine c_pick (d_nilB rfl rfl) ?_
    | refine c_pick (d_storeB rfl rfl rfl rfl rfl) ?_
    | refine c_pick (d_moveP rfl rfl) ?_
    | refine c_pick (d_loadBO rfl rfl rfl rfl) ?_
    | refine c_pick (d_buildSlice rfl rfl (by kernel_rfl) rfl rfl rfl rfl rfl) ?_
    | refine c_pick (d_build rfl rfl rfl) ?_
    | fail)
    refine run_endA () (fun j => if j = 0 then 36 else j) (tm := []) ?_ (resA_none rfl)
    (refine ⟨?_, ?_, by rfl⟩ <;> repeat' (first | exact trivial | exact ALe.ptr rfl | exact ALe.own rfl | exact ALe.elt rfl | exact BLe.boxD _ _ | exact BLe.row rfl | exact BLe.res | exact BLe.dead rfl | exact ALe.dat (PLe.refl _) | exact CLe.nil | refine And.intro ?_ ?_ | refine ALe.iface ?_ | refine ALe.clo ?_ | refine CLe.cons ?_ ?_ | refine BLe.box ?_ | refine BLe.row ?_ | exact ALe.any _ | refine ALe.dat (PLe.of_eq ?_)))
set_option maxHeartbeats 8000000 in
theorem mapIns_c (T : TypeId) (m : List (PEV × JV)) (p : PEV) (j : JV) (hl : ∀ x ∈ m.map (·.1), OPE x) (hp : OPE p) (hs : Srt cmpPE (m.map (·.1))) (hb : (m.length + 1) * 48 ≤ 140737488351232) :
    ACall1 Tryz.prog 66 [.ptr 1000 0, .dat (dvPE p), .dat (dvV j)] [(1000, .box T [.own 1001]), (1001, .row 268 5 48 (m.map dvPV))] (.dat (.tup []))
      [(1000, .box T [.own 0]), (0, .row 268 5 48 ((insM cmpPE m p j).map dvPV)), (1001, .dead)] := by
  have c := mapInsI_c T m p j hl hp hs hb
  obtain ⟨u0, u1, u2, u3, e⟩ := dvPE_agg p
  rw [e] at c ⊢
  generalize m.map dvPV = da at *
  generalize (insM cmpPE m p j).map dvPV = db at *
  refine acall_of_run Tryz.func66 rfl Tryz.ntmps66 rfl (fun X => ?_)
  repeat' (first
    | (refine c_pick (d_acall2 (fun k => if k = 0 then 200 else k) rfl (by kernel_rfl) c rfl rfl rfl rfl rfl rfl rfl rfl rfl rfl rfl rfl rfl) ?_)
    | refine run_seq ?_
    | (refine k_pick rfl ?_; refine k_boxW rfl rfl rfl (by first | rfl | (simp only [cellsD]; rfl)) ?_)
    | refine run_opsEnd ?_
    | refine run_region ?_
    | refine run_drawC (by kernel_rfl) ?_
    | refine c_nil (And.intro (by kernel_rfl) ?_)
    | refine c_pick (d_moveD rfl rfl) ?_
    | refine c_pick (d_fieldAddrB rfl rfl rfl) ?_
    | refine c_pick (d_loadW rfl rfl rfl (by first | rfl | (simp only [cellsD]; rfl))) ?_
    | refine c_pick (d_nilB rfl rfl) ?_
    | refine c_pick (d_moveP rfl rfl) ?_
    | fail)
  refine run_endA () (fun j => if j = 0 then 200 else j) (tm := []) ?_ (resA_none rfl)
  (refine ⟨?_, ?_, by rfl⟩ <;> repeat' (first | exact trivial | exact ALe.ptr rfl | exact ALe.own rfl | exact ALe.elt rfl | exact BLe.boxD _ _ | exact BLe.row rfl | exact BLe.res | exact BLe.dead rfl | exact ALe.dat (PLe.refl _) | exact CLe.nil | refine And.intro ?_ ?_ | refine ALe.iface ?_ | refine ALe.clo ?_ | refine CLe.cons ?_ ?_ | refine BLe.box ?_ | refine BLe.row ?_ | exact ALe.any _ | refine ALe.dat (PLe.of_eq ?_)))
theorem mkMap_c (n : Nat) (hn : n * 48 ≤ 140737488351232) : ACall1 Tryz.prog 128 [.dat (.val (.int .i64 (n : Int)))] [] (.agg [.own 0]) [(0, .row 268 5 48 []), (1, .box 89 [.own 0])] := by
  have hn2 : n ≤ 140737488351232 := by omega
  refine acall_of_run Tryz.func128 rfl Tryz.ntmps128 rfl (fun X => ?_)
  repeat' (first
    | refine run_seq ?_
    | (refine k_pick rfl ?_; first | refine k_makeSlice rfl rfl rfl rfl (by kernel_rfl) (by assumption) (by assumption) ?_ | refine k_moveD rfl rfl ?_ | refine k_storeB rfl rfl rfl rfl rfl ?_ | refine k_alloc rfl rfl ?_ | refine k_buildG rfl rfl rfl ?_)
    | refine run_opsEnd ?_
    | refine run_region ?_
    | fail)
  refine run_retA () (fun k => if k = 0 then 4 else 2) (tm := [(2, .ptr 1 0)]) ?_ (resA_cell (off := 0) rfl rfl rfl rfl)
  (refine ⟨?_, ?_, by rfl⟩ <;> repeat' (first | exact trivial | exact ALe.ptr rfl | exact ALe.own rfl | exact ALe.elt rfl | exact BLe.boxD _ _ | exact BLe.row rfl | exact BLe.res | exact BLe.dead rfl | exact ALe.dat (PLe.refl _) | exact CLe.nil | refine And.intro ?_ ?_ | refine ALe.iface ?_ | refine ALe.clo ?_ | refine CLe.cons ?_ ?_ | refine BLe.box ?_ | refine BLe.row ?_ | exact ALe.any _ | refine ALe.dat (PLe.of_eq ?_)))
theorem mkVMap_c (n : Nat) (hn : n * 48 ≤ 140737488351232) : ACall1 Tryz.prog 65 [.dat (.val (.int .i64 (n : Int)))] [] (.agg [.own 0]) [(0, .row 268 5 48 []), (1, .box 91 [.own 0])] := by
  have c := mkMap_c n hn
  refine acall_of_run Tryz.func65 rfl Tryz.ntmps65 rfl (fun X => ?_)
  repeat' (first
    | refine run_seq ?_
    | (refine k_pick rfl ?_; first | refine k_moveD rfl rfl ?_ | refine k_storeB rfl rfl rfl rfl rfl ?_ | refine k_alloc rfl rfl ?_ | refine k_buildG rfl rfl rfl ?_ | refine k_acall1 (thk [] 200) rfl (by kernel_rfl) (c) rfl trivial rfl (freshB_ok rfl) rfl ?_)
    | refine run_opsEnd ?_
    | refine run_region ?_
    | fail)
  refine run_retA () (fun k => if k = 0 then 200 else 2) (tm := [(2, .ptr 1 0)]) ?_ (resA_cell (off := 0) rfl rfl rfl rfl)
  (refine ⟨?_, ?_, by rfl⟩ <;> repeat' (first | exact trivial | exact ALe.ptr rfl | exact ALe.own rfl | exact ALe.elt rfl | exact BLe.boxD _ _ | exact BLe.row rfl | exact BLe.res | exact BLe.dead rfl | exact ALe.dat (PLe.refl _) | exact CLe.nil | refine And.intro ?_ ?_ | refine ALe.iface ?_ | refine ALe.clo ?_ | refine CLe.cons ?_ ?_ | refine BLe.box ?_ | refine BLe.row ?_ | exact ALe.any _ | refine ALe.dat (PLe.of_eq ?_)))
end Go.Proofs.YtgmahieoiifpfaaGreat
end
section
set_option linter.unusedVariables false
namespace Go.Proofs.YtgmahieoiifpfaaGreat
open Go.RowKit
set_option linter.unusedSimpArgs false
def prsE (ks : List EV) (vs : List GV) : List (PEV × JV) := (ks.map toPE).zip (vs.map plainJ)
def mapE (ks : List EV) (vs : List GV) : List (PEV × JV) := mapOf cmpPE (prsE ks vs)
def resM : Option JV → GV
  | some j => unJ j
  | none => gNull
theorem prs_O {ks : List EV} {vs : List GV} (h : ∀ x ∈ ks, OPE (toPE x)) : ∀ e ∈ prsE ks vs, OPE e.1 := fun e he => by
  unfold prsE at he
  have := (List.of_mem_zip he).1
  obtain ⟨x, hx, ex⟩ := List.mem_map.1 this
  rw [← ex]
  exact h x hx
theorem prs_at {ks : List EV} {vs : List GV} {k : Nat} {x : EV} {y : GV} (hx : ks[k]? = some x) (hy : vs[k]? = some y) : (prsE ks vs)[k]? = some (toPE x, plainJ y) := by
  unfold prsE
  rw [List.getElem?_zip_eq_some]
  simp [hx, hy]
set_option maxHeartbeats 16000000 in
theorem elemMap_p (ks : List EV) (vs : List GV) (x : EV) (hk : ∀ y ∈ ks, OPE (toPE y)) (hx : OPE (toPE x)) :
    PCall Tryz.prog 18 [.sl 11 168 (ks.map pdE), .sl 6 88 (pdVs vs), pdE x] (.tup [qV (resM (getR cmpPE (mapE ks vs) (toPE x))), .val (.bool (getR cmpPE (mapE ks vs) (toPE x)).isSome)]) := by
  refine pcall_fits fun hfit => ?_
  have b0 := (hfit (.sl 11 168 (ks.map pdE)) (by simp)).sl
  clear hfit
  have n1 : (ks.map pdE).length = ks.length := by simp
  have n2 := pdVs_len vs
  have b1 := b0.1
  rw [n1] at b1
  clear b0
  have hO := prs_O (vs := vs) hk
  have hOt : ∀ k, ∀ e ∈ (prsE ks vs).take k, OPE e.1 := fun k e he => hO e (List.mem_of_mem_take he)
  have ga : ∀ {i : Nat} {y : EV}, ks[i]? = some y → (ks.map pdE)[((i : Nat) : Int).toNat]? = some (pdE y) := fun h => by simp [h]
  have c0 := mkVMap_c ks.length (by omega)
  rw [← n1] at c0
  have hpl : (prsE ks vs).length = min ks.length vs.length := by unfold prsE; simp
  refine pcall_of_run Tryz.func18 rfl Tryz.ntmps18 rfl (fun X => ?_)
  repeat' (first
    | refine run_seq ?_
    | (refine k_pick rfl ?_; first | refine k_assignD rfl rfl ?_ | refine k_moveD rfl rfl ?_ | refine k_boxW rfl rfl rfl (by first | rfl | (simp only [pdE, cellsD]; rfl)) ?_ | refine k_lenD rfl rfl ?_ | refine k_storeB rfl rfl rfl rfl rfl ?_ | refine k_alloc rfl rfl ?_ | refine k_acall1 (thk [] 200) rfl (by kernel_rfl) (c0) rfl trivial rfl (freshB_ok rfl) rfl ?_)
    | refine run_opsEnd ?_
    | refine run_region ?_
    | refine run_block ?_
    | fail)
  refine run_loopS (ι := { k : Nat // k ≤ ks.length })
    (fun k => [(1, .dat (.sl 6 88 (pdVs vs))), (5, .ptr 5 0), (6, .ptr 6 0), (8, .ptr 8 0), (16, .dat (.sl 11 168 (ks.map pdE))), (17, .dat (.val (.int .i64 (((ks.map pdE).length : Nat) : Int)))), (18, .dat (.val (.int .i64 (k.1 : Nat))))])
    (fun k => [(5, .box 29 (cellsD (pdE x))), (6, .box 27 [.dat (.val (.int .i64 0)), .dat (.val (.int .i64 0)), .dat (.val (.float .f64 0)), .dat (.val (.string ⟨#[]⟩)), .dat (.val (.slice none 0 0)), .dat (.val (.slice none 0 0))]), (8, .box 91 [.own 100]), (100, .row 268 5 48 ((mapOf cmpPE ((prsE ks vs).take k.1)).map dvPV))])
    (fun k => ks.length - k.1) ⟨0, Nat.zero_le _⟩ (fun j => if j = 100 then 200 else j) ?_ ?_
  · (refine ⟨?_, ?_, by rfl⟩ <;> repeat' (first | exact trivial | exact ALe.ptr rfl | exact ALe.own rfl | exact ALe.elt rfl | exact BLe.boxD _ _ | exact BLe.row rfl | exact BLe.res | exact BLe.dead rfl | exact ALe.dat (PLe.refl _) | exact CLe.nil | refine And.intro ?_ ?_ | refine ALe.iface ?_ | refine ALe.clo ?_ | refine CLe.cons ?_ ?_ | refine BLe.box ?_ | refine BLe.row ?_ | exact ALe.any _ | refine ALe.dat (PLe.of_eq ?_)))
    all_goals first | rfl | simp [mapOf]
  rintro ⟨k, hkl⟩
  by_cases hlt : k < ks.length
  · have hc : decide ((k : Int) < (((ks.map pdE).length : Nat) : Int)) = true := decide_eq_true (by omega)
    obtain ⟨y, hy⟩ : ∃ y, ks[k]? = some y := ⟨_, List.getElem?_eq_getElem hlt⟩
    have i1 := ga hy
    by_cases hlv : k < vs.length
    · have hc2 : decide ((k : Int) < (((pdVs vs).length : Nat) : Int)) = true := decide_eq_true (by omega)
      obtain ⟨u, hu⟩ : ∃ u, vs[k]? = some u := ⟨_, List.getElem?_eq_getElem hlv⟩
      have i2 := pdVs_i hu
      have c1 := toElem_v y
      have c2 := toValue_p u
      have hml := mapOf_len ordPE (hOt k)
      have c3 := mapIns_c 91 (mapOf cmpPE ((prsE ks vs).take k)) (toPE y) (plainJ u) (mapOf_P ordPE (hOt k)) (hk y (List.mem_of_getElem? hy)) (mapOf_srt ordPE (hOt k)) (by have := List.length_take_le k (prsE ks vs); omega)
      have hstep : insM cmpPE (mapOf cmpPE ((prsE ks vs).take k)) (toPE y) (plainJ u) = mapOf cmpPE ((prsE ks vs).take (k + 1)) := by
        rw [List.take_add_one, prs_at hy hu]
        exact (mapOf_app _ (toPE y, plainJ u)).symm
      rw [hstep] at c3
      clear hstep hml
      generalize (mapOf cmpPE ((prsE ks vs).take k)).map dvPV = da at *
      repeat' (first
    | (refine c_pick (d_acall2 (fun k => if k = 1000 then 8 else if k = 1001 then 100 else 200) rfl (by kernel_rfl) c3 rfl rfl rfl rfl rfl rfl rfl rfl rfl rfl rfl rfl rfl) ?_)
    | refine run_seq ?_
    | (refine k_pick rfl ?_; first | refine k_indexAddrD rfl rfl rfl (by first | omega | (dsimp only; omega)) (by assumption) ?_ | refine k_assignD rfl rfl ?_ | refine k_moveD rfl rfl ?_ | refine k_bin2B rfl rfl rfl rfl ?_ | refine k_lenD rfl rfl ?_ | refine k_storeW rfl rfl rfl (by first | rfl | (simp only [pdE, qV, cellsD]; rfl)) (by first | rfl | (simp only [pdE, qV, cellsD]; rfl)) rfl ?_ | refine k_ariI rfl rfl rfl rfl (by first | omega | (dsimp only; omega)) ?_ | refine k_loadD rfl rfl (by first | rfl | (simp only [pdE, qV, cellsD]; rfl)) ?_ | refine k_alloc rfl rfl ?_)
    | refine run_opsEnd ?_
    | refine run_region ?_
    | refine run_condT rfl (by first | rfl | assumption) ?_
    | refine run_block ?_
    | refine run_blkEnd ?_
    | refine run_skip ?_
    | refine run_drawC (by kernel_rfl) ?_
    | refine c_nil (And.intro (by kernel_rfl) ?_)
    | refine c_pick (d_indexAddrD rfl rfl rfl (by first | omega | (dsimp only; omega)) (by assumption)) ?_
    | refine c_pick (d_moveD rfl rfl) ?_
    | refine c_pick (d_loadW rfl rfl rfl (by first | rfl | (simp only [pdE, qV, cellsD]; rfl))) ?_
    | refine c_pick (d_call rfl (by kernel_rfl) rfl (by first | exact c1 | (simp only [← pdE, ← qV]; exact c1) | exact c2 | (simp only [← pdE, ← qV]; exact c2))) ?_
    | refine c_pick (d_loadD rfl rfl (by first | rfl | (simp only [pdE, qV, cellsD]; rfl))) ?_
    | fail)
      refine run_again ?_
      refine ⟨⟨k + 1, by omega⟩, (fun j => if j = 100 then 200 else j), by simp only; omega, ?_⟩
      (refine ⟨?_, ?_, by rfl⟩ <;> repeat' (first | exact trivial | exact ALe.ptr rfl | exact ALe.own rfl | exact ALe.elt rfl | exact BLe.boxD _ _ | exact BLe.row rfl | exact BLe.res | exact BLe.dead rfl | exact ALe.dat (PLe.refl _) | exact CLe.nil | refine And.intro ?_ ?_ | refine ALe.iface ?_ | refine ALe.clo ?_ | refine CLe.cons ?_ ?_ | refine BLe.box ?_ | refine BLe.row ?_ | exact ALe.any _ | refine ALe.dat (PLe.of_eq ?_)))
    · have hc2 : decide ((k : Int) < (((pdVs vs).length : Nat) : Int)) = false := decide_eq_false (by omega)
      have e1 : (prsE ks vs).take k = prsE ks vs := List.take_of_length_le (by omega)
      have e2 : (prsE ks vs).take (k + 1) = prsE ks vs := List.take_of_length_le (by omega)
      repeat' (first
    | refine run_seq ?_
    | (refine k_pick rfl ?_; first | refine k_indexAddrD rfl rfl rfl (by first | omega | (dsimp only; omega)) (by assumption) ?_ | refine k_assignD rfl rfl ?_ | refine k_moveD rfl rfl ?_ | refine k_bin2B rfl rfl rfl rfl ?_ | refine k_lenD rfl rfl ?_ | refine k_storeW rfl rfl rfl (by first | rfl | (simp only [pdE, cellsD]; rfl)) (by first | rfl | (simp only [pdE, cellsD]; rfl)) rfl ?_ | refine k_ariI rfl rfl rfl rfl (by first | omega | (dsimp only; omega)) ?_ | refine k_loadD rfl rfl (by first | rfl | (simp only [pdE, cellsD]; rfl)) ?_ | refine k_alloc rfl rfl ?_)
    | refine run_opsEnd ?_
    | refine run_region ?_
    | refine run_condT rfl (by first | rfl | assumption) ?_
    | refine run_condF rfl (by first | rfl | assumption) ?_
    | refine run_block ?_
    | refine run_blkEnd ?_
    | refine run_skip ?_
    | fail)
      refine run_again ?_
      refine ⟨⟨k + 1, by omega⟩, id, by simp only; omega, ?_⟩
      (refine ⟨?_, ?_, by rfl⟩ <;> repeat' (first | exact trivial | exact ALe.ptr rfl | exact ALe.own rfl | exact ALe.elt rfl | exact BLe.boxD _ _ | exact BLe.row rfl | exact BLe.res | exact BLe.dead rfl | exact ALe.dat (PLe.refl _) | exact CLe.nil | refine And.intro ?_ ?_ | refine ALe.iface ?_ | refine ALe.clo ?_ | refine CLe.cons ?_ ?_ | refine BLe.box ?_ | refine BLe.row ?_ | exact ALe.any _ | refine ALe.dat (PLe.of_eq ?_)))
      all_goals first | rfl | (rw [e1, e2])
  · have hc : decide ((k : Int) < (((ks.map pdE).length : Nat) : Int)) = false := decide_eq_false (by omega)
    have hkk : (prsE ks vs).take k = prsE ks vs := List.take_of_length_le (by omega)
    simp only [hkk]
    have c1 := toElem_v x
    have c2 := mapGet_p (mapOf cmpPE (prsE ks vs)) (toPE x) (mapOf_P ordPE hO) hx (mapOf_srt ordPE hO)
    have em : mapE ks vs = mapOf cmpPE (prsE ks vs) := rfl
    rw [em]
    generalize hg : getR cmpPE (mapOf cmpPE (prsE ks vs)) (toPE x) = g at *
    clear hg em hkk
    generalize (mapOf cmpPE (prsE ks vs)).map dvPV = da at *
    refine run_frz (fun _ => false) (fun k => Nat.beq k 100) ?_
    refine run_frz (fun t => Nat.beq t 91) (fun k => Nat.beq k 8) ?_
    cases g with
    | some j =>
      have c3 := fromValue_p j
      repeat' (first
    | refine run_seq ?_
    | (refine k_pick rfl ?_; first | refine k_assignD rfl rfl ?_ | refine k_moveD rfl rfl ?_ | refine k_loadBD rfl rfl rfl (by first | rfl | (simp only [pdE, cellsD]; rfl)) ?_ | refine k_bin2B rfl rfl rfl rfl ?_ | refine k_call rfl (by kernel_rfl) rfl (by first | exact c1 | (simp only [← pdE]; exact c1) | exact c2 | (simp only [← pdE]; exact c2) | exact c3 | (simp only [← pdE]; exact c3)) ?_ | refine k_extract rfl rfl rfl ?_ | refine k_storeB rfl rfl rfl rfl rfl ?_)
    | refine run_opsEnd ?_
    | refine run_region ?_
    | refine run_condF rfl (by first | rfl | assumption) ?_
    | refine run_exit rfl ?_
    | refine run_retOk (resOk_cellTmp rfl rfl rfl (by first | rfl | (simp only [pdE, cellsD]; rfl)) rfl ?_ ?_)
    | fail)
      all_goals exact PLe.refl _
    | none =>
      have c3 := fromNil_p
      repeat' (first
    | refine run_seq ?_
    | (refine k_pick rfl ?_; first | refine k_assignD rfl rfl ?_ | refine k_moveD rfl rfl ?_ | refine k_loadBD rfl rfl rfl (by first | rfl | (simp only [pdE, cellsD]; rfl)) ?_ | refine k_bin2B rfl rfl rfl rfl ?_ | refine k_call rfl (by kernel_rfl) rfl (by first | exact c1 | (simp only [← pdE]; exact c1) | exact c2 | (simp only [← pdE]; exact c2) | exact c3 | (simp only [← pdE]; exact c3)) ?_ | refine k_extract rfl rfl rfl ?_ | refine k_storeB rfl rfl rfl rfl rfl ?_)
    | refine run_opsEnd ?_
    | refine run_region ?_
    | refine run_condF rfl (by first | rfl | assumption) ?_
    | refine run_exit rfl ?_
    | refine run_retOk (resOk_cellTmp rfl rfl rfl (by first | rfl | (simp only [pdE, cellsD]; rfl)) rfl ?_ ?_)
    | fail)
      all_goals exact PLe.refl _
end Go.Proofs.YtgmahieoiifpfaaGreat
end
section
set_option linter.unusedVariables false
namespace Go.Proofs.YtgmahieoiifpfaaGreat
open Go.RowKit
set_option linter.unusedSimpArgs false
theorem sameC_p (x y : GV) (h : cleanV x = cleanV y) : PCall Tryz.prog 19 [qV x, qV y] (.val (.bool true)) := by
  have c1 := clean_q x
  have c2 := clean_q y
  rw [← h] at c2
  have c3 := identQ_p (cleanV x) (cleanV x)
  rw [sameG_iff.2 rfl] at c3
  clear h
  generalize cleanV x = z at *
  refine pcall_of_run Tryz.func19 rfl Tryz.ntmps19 rfl (fun X => ?_)
  repeat' (first
    | refine run_seq ?_
    | (refine k_pick rfl ?_; first | refine k_assignD rfl rfl ?_ | refine k_boxW rfl rfl rfl (by first | rfl | (simp only [cellsD]; rfl)) ?_)
    | refine run_opsEnd ?_
    | refine run_region ?_
    | refine run_retOk (resOk_tmp rfl rfl ?_)
    | refine run_drawC (by kernel_rfl) ?_
    | refine c_nil (And.intro (by kernel_rfl) ?_)
    | refine c_pick (d_assignD rfl rfl) ?_
    | refine c_pick (d_loadW rfl rfl rfl (by first | rfl | (simp only [cellsD]; rfl))) ?_
    | refine c_pick (d_call rfl (by kernel_rfl) rfl (by first | exact c1 | exact c2 | exact c3)) ?_
    | fail)
  all_goals exact PLe.refl _
theorem prs_app {a : List EV} {b : List GV} (h : a.length = b.length) (x : EV) (v : GV) : prsE (a ++ [x]) (b ++ [v]) = prsE a b ++ [(toPE x, plainJ v)] := by
  unfold prsE
  rw [List.map_append, List.map_append, List.zip_append (by simpa using h)]
  rfl
set_option maxHeartbeats 16000000 in
theorem lawEM_p (ks : List EV) (vs : List GV) (x : EV) (v : GV) (ask : EV) : PCall Tryz.prog 3 [.sl 11 168 (ks.map pdE), .sl 6 88 (pdVs vs), pdE x, qV v, pdE ask] (.val (.bool true)) := by
  refine pcall_fits fun hf => ?_
  have f1 := hf (.sl 11 168 (ks.map pdE)) (by simp)
  have f2 := hf (pdE x) (by simp)
  have f3 := hf (pdE ask) (by simp)
  clear hf
  have n1 : (ks.map pdE).length = ks.length := by simp
  have n2 := pdVs_len vs
  obtain ⟨b1, c1⟩ := fits13_p x
  obtain ⟨b2, c2⟩ := fits5_p v
  obtain ⟨b3, c3⟩ := fits13_p ask
  by_cases h1 : 2147483647 < ks.length
  · have g1 : decide ((2147483647 : Int) < (((ks.map pdE).length : Nat) : Int)) = true := decide_eq_true (by omega)
    refine pcall_of_run Tryz.func3 rfl Tryz.ntmps3 rfl (fun X => ?_)
    repeat' (first
    | refine run_seq ?_
    | (refine k_pick rfl ?_; first | refine k_assignD rfl rfl ?_ | refine k_moveD rfl rfl ?_ | refine k_bin2B rfl rfl rfl rfl ?_ | refine k_pickT rfl rfl (by first | rfl | assumption) rfl ?_ | refine k_boxW rfl rfl rfl (by first | rfl | (simp only [pdE, qV, cellsD]; rfl)) ?_ | refine k_lenD rfl rfl ?_)
    | refine run_opsEnd ?_
    | refine run_region ?_
    | refine run_condT rfl (by first | rfl | assumption) ?_
    | refine k_guardNF rfl rfl (by first | rfl | assumption) rfl ?_
    | refine run_retOk (resOk_tmp rfl rfl ?_)
    | fail)
    all_goals exact PLe.refl _
  have g1 : decide ((2147483647 : Int) < (((ks.map pdE).length : Nat) : Int)) = false := decide_eq_false (by omega)
  by_cases h2 : 2147483647 < vs.length
  · have g2 : decide ((2147483647 : Int) < (((pdVs vs).length : Nat) : Int)) = true := decide_eq_true (by omega)
    refine pcall_of_run Tryz.func3 rfl Tryz.ntmps3 rfl (fun X => ?_)
    repeat' (first
    | refine run_seq ?_
    | (refine k_pick rfl ?_; first | refine k_assignD rfl rfl ?_ | refine k_moveD rfl rfl ?_ | refine k_bin2B rfl rfl rfl rfl ?_ | refine k_pickT rfl rfl (by first | rfl | assumption) rfl ?_ | refine k_pickF rfl rfl (by first | rfl | assumption) rfl ?_ | refine k_boxW rfl rfl rfl (by first | rfl | (simp only [pdE, qV, cellsD]; rfl)) ?_ | refine k_lenD rfl rfl ?_)
    | refine run_opsEnd ?_
    | refine run_region ?_
    | refine run_condT rfl (by first | rfl | assumption) ?_
    | (refine k_guardY rfl rfl (by first | rfl | assumption) ?_; first | refine k_moveD rfl rfl ?_ | refine k_bin2B rfl rfl rfl rfl ?_ | refine k_lenD rfl rfl ?_)
    | refine k_guardNF rfl rfl (by first | rfl | assumption) rfl ?_
    | refine run_retOk (resOk_tmp rfl rfl ?_)
    | fail)
    all_goals exact PLe.refl _
  have g2 : decide ((2147483647 : Int) < (((pdVs vs).length : Nat) : Int)) = false := decide_eq_false (by omega)
  by_cases hb : (b1 && b2 && b3) = true
  rotate_left
  · cases b1 <;> cases b2 <;> cases b3 <;> first | (exfalso; exact hb rfl) | skip
    all_goals
      refine pcall_of_run Tryz.func3 rfl Tryz.ntmps3 rfl (fun X => ?_)
      repeat' (first
    | refine run_seq ?_
    | (refine k_pick rfl ?_; first | refine k_assignD rfl rfl ?_ | refine k_moveD rfl rfl ?_ | refine k_bin2B rfl rfl rfl rfl ?_ | refine k_pickT rfl rfl (by first | rfl | assumption) rfl ?_ | refine k_pickF rfl rfl (by first | rfl | assumption) rfl ?_ | refine k_boxW rfl rfl rfl (by first | rfl | (simp only [pdE, qV, cellsD]; rfl)) ?_ | refine k_lenD rfl rfl ?_)
    | refine run_opsEnd ?_
    | refine run_region ?_
    | refine run_condT rfl (by first | rfl | assumption) ?_
    | (refine k_guardY rfl rfl (by first | rfl | assumption) ?_; first | refine k_moveD rfl rfl ?_ | refine k_loadW rfl rfl rfl (by first | rfl | (simp only [pdE, qV, cellsD]; rfl)) ?_ | refine k_bin2B rfl rfl rfl rfl ?_ | refine k_call rfl (by kernel_rfl) rfl (by first | exact c1 | (simp only [← pdE, ← qV]; exact c1) | exact c2 | (simp only [← pdE, ← qV]; exact c2) | exact c3 | (simp only [← pdE, ← qV]; exact c3)) ?_ | refine k_lenD rfl rfl ?_ | refine k_not rfl rfl ?_)
    | refine k_guardNF rfl rfl (by first | rfl | assumption) rfl ?_
    | refine run_retOk (resOk_tmp rfl rfl ?_)
    | fail)
    all_goals exact PLe.refl _
  obtain ⟨rfl, rfl, rfl⟩ : b1 = true ∧ b2 = true ∧ b3 = true := by
    cases b1 <;> cases b2 <;> cases b3 <;> first | exact ⟨rfl, rfl, rfl⟩ | cases hb
  clear hb
  have c4 := tame_p (ask :: x :: ks)
  have v0 : pdP (ask :: x :: ks) = .sl 11 168 ([pdE ask, pdE x] ++ ks.map pdE) := rfl
  rw [v0] at c4
  have q1 : (([pdE ask, pdE x].length) + (ks.map pdE).length) * 168 ≤ 140737488351232 := by simp only [List.length_cons, List.length_nil, n1]; omega
  have q2 : ([pdE ask, pdE x].length) + (ks.map pdE).length ≤ 140737488351232 := by simp only [List.length_cons, List.length_nil, n1]; omega
  cases o1 : (ask :: x :: ks).all ordE with
  | false =>
    rw [o1] at c4
    clear o1 f1 f2 f3 v0
    refine pcall_of_run Tryz.func3 rfl Tryz.ntmps3 rfl (fun X => ?_)
    repeat' (first
    | refine run_seq ?_
    | (refine k_pick rfl ?_; first | refine k_appendOD rfl rfl rfl rfl rfl (by kernel_rfl) rfl rfl (by assumption) (by assumption) ?_ | refine k_minN rfl rfl rfl ?_ | refine k_assignD rfl rfl ?_ | refine k_moveD rfl rfl ?_ | refine k_loadW rfl rfl rfl (by first | rfl | (simp only [pdE, qV, cellsD]; rfl)) ?_ | refine k_bin2B rfl rfl rfl rfl ?_ | refine k_pickF rfl rfl (by first | rfl | assumption) rfl ?_ | refine k_boxW rfl rfl rfl (by first | rfl | (simp only [pdE, qV, cellsD]; rfl)) ?_ | refine k_lenD rfl rfl ?_ | refine k_not rfl rfl ?_ | refine k_buildSlice rfl rfl (by kernel_rfl) rfl rfl rfl rfl rfl ?_ | refine k_callZ gV rfl (by kernel_rfl) rfl (by first | exact c1 | (simp only [← pdE, ← qV]; exact c1) | exact c2 | (simp only [← pdE, ← qV]; exact c2) | exact c3 | (simp only [← pdE, ← qV]; exact c3) | exact c4 | (simp only [← pdE, ← qV]; exact c4)) Flat.val ?_)
    | refine run_opsEnd ?_
    | refine run_region ?_
    | refine run_condT rfl (by first | rfl | assumption) ?_
    | refine run_condF rfl (by first | rfl | assumption) ?_
    | (refine k_guardY rfl rfl (by first | rfl | assumption) ?_; first | refine k_moveD rfl rfl ?_ | refine k_loadW rfl rfl rfl (by first | rfl | (simp only [pdE, qV, cellsD]; rfl)) ?_ | refine k_bin2B rfl rfl rfl rfl ?_ | refine k_call rfl (by kernel_rfl) rfl (by first | exact c1 | (simp only [← pdE, ← qV]; exact c1) | exact c2 | (simp only [← pdE, ← qV]; exact c2) | exact c3 | (simp only [← pdE, ← qV]; exact c3) | exact c4 | (simp only [← pdE, ← qV]; exact c4)) ?_ | refine k_lenD rfl rfl ?_ | refine k_not rfl rfl ?_)
    | refine run_skip ?_
    | refine run_retOk (resOk_tmp rfl rfl ?_)
    | fail)
    all_goals exact PLe.refl _
  | true =>
  rw [o1] at c4
  have o1 := o1
  simp only [List.all_cons, Bool.and_eq_true] at o1
  have jl : ∀ y ∈ ks, JPE (toPE y) := fun y hy => JPE_fits (f1.sl.2.2 (pdE y) (List.mem_map.2 ⟨y, hy, rfl⟩))
  have jx := JPE_fits f2
  have ja := JPE_fits f3
  have ol : ∀ y ∈ ks, OPE (toPE y) := fun y hy => OPE_ord (jl y hy) (List.all_eq_true.1 o1.2.2 y hy)
  have ox := OPE_ord jx o1.2.1
  have oa := OPE_ord ja o1.1
  have hn : min (ks.map pdE).length (pdVs vs).length = min ks.length vs.length := by rw [n1, n2]
  have ot : ∀ y ∈ ks.take (min ks.length vs.length), OPE (toPE y) := fun y hy => ol y (List.mem_of_mem_take hy)
  have ot2 : ∀ y ∈ ks.take (min ks.length vs.length) ++ [x], OPE (toPE y) := fun y hy => by
    rcases List.mem_append.1 hy with h | h
    · exact ot y h
    · rw [List.mem_singleton] at h; rw [h]; exact ox
  have k1 := elemMap_p (ks.take (min ks.length vs.length) ++ [x]) (vs.take (min ks.length vs.length) ++ [v]) x ot2 ox
  have k2 := elemMap_p (ks.take (min ks.length vs.length) ++ [x]) (vs.take (min ks.length vs.length) ++ [v]) ask ot2 oa
  have k3 := elemMap_p (ks.take (min ks.length vs.length)) (vs.take (min ks.length vs.length)) ask ot oa
  have em : mapE (ks.take (min ks.length vs.length) ++ [x]) (vs.take (min ks.length vs.length) ++ [v]) = insM cmpPE (mapE (ks.take (min ks.length vs.length)) (vs.take (min ks.length vs.length))) (toPE x) (plainJ v) := by
    unfold mapE
    rw [prs_app (by simp only [List.length_take]; omega), mapOf_app]
  rw [em, get_same ordPE _ _ ox] at k1
  rw [em] at k2
  have k1 : PCall Tryz.prog 18 [.sl 11 168 ((ks.take (min ks.length vs.length) ++ [x]).map pdE), .sl 6 88 (pdVs (vs.take (min ks.length vs.length) ++ [v])), pdE x] (.tup [qV (unJ (plainJ v)), .val (.bool true)]) := k1
  rw [un_plain] at k1
  have c5 := sameC_p (cleanV v) v (cleanV_idem v)
  have c6 := eqElems_p x ask
  have hoth : eqE x ask = false → getR cmpPE (insM cmpPE (mapE (ks.take (min ks.length vs.length)) (vs.take (min ks.length vs.length))) (toPE x) (plainJ v)) (toPE ask) = getR cmpPE (mapE (ks.take (min ks.length vs.length)) (vs.take (min ks.length vs.length))) (toPE ask) := fun h => by
    refine get_other ordPE _ _ (fun z hz => ?_) ox oa fun e => ?_
    · exact mapOf_P ordPE (prs_O ot) _ (List.mem_map.2 ⟨z, hz, rfl⟩)
    · have := (eqPE_iff ox oa).2 e
      rw [eqE_law jx ja, h] at this
      cases this
  have v1 : (ks.take (min ks.length vs.length) ++ [x]).map pdE = ([] ++ ((ks.map pdE).take (min (ks.map pdE).length (pdVs vs).length)).drop 0) ++ [pdE x] := by rw [hn]; simp [List.map_take]
  have v2 : pdVs (vs.take (min ks.length vs.length) ++ [v]) = ([] ++ ((pdVs vs).take (min (ks.map pdE).length (pdVs vs).length)).drop 0) ++ [qV v] := by rw [hn, pdVs_eq, pdVs_eq]; simp [List.map_take]; exact pdV_eq v
  have v3 : (ks.take (min ks.length vs.length)).map pdE = ((ks.map pdE).take (min (ks.map pdE).length (pdVs vs).length)).drop 0 := by rw [hn]; simp [List.map_take]
  have v4 : pdVs (vs.take (min ks.length vs.length)) = ((pdVs vs).take (min (ks.map pdE).length (pdVs vs).length)).drop 0 := by rw [hn, pdVs_eq, pdVs_eq]; simp [List.map_take]
  rw [v1, v2] at k1 k2
  rw [v3, v4] at k3
  have m1 : min (ks.map pdE).length (pdVs vs).length ≤ (ks.map pdE).length := by omega
  have m2 : min (ks.map pdE).length (pdVs vs).length ≤ (pdVs vs).length := by omega
  generalize getR cmpPE (insM cmpPE (mapE (ks.take (min ks.length vs.length)) (vs.take (min ks.length vs.length))) (toPE x) (plainJ v)) (toPE ask) = r2 at *
  generalize getR cmpPE (mapE (ks.take (min ks.length vs.length)) (vs.take (min ks.length vs.length))) (toPE ask) = r3 at *
  clear o1 f1 f2 f3 v0 jl jx ja ol ox oa hn ot ot2 em v1 v2 v3 v4
  generalize hda : ks.map pdE = da at *
  generalize hdb : pdVs vs = db at *
  have d1 : da.length ≤ 2147483647 := by omega
  have d2 : db.length ≤ 2147483647 := by omega
  clear n1 n2 h1 h2 hda hdb
  cases he : eqE x ask with
  | true =>
    rw [he] at c6
    clear he hoth
    generalize resM r2 = y2 at *
    generalize resM r3 = y3 at *
    generalize r2.isSome = z2 at *
    generalize r3.isSome = z3 at *
    generalize cleanV v = cv at *
    refine pcall_of_run Tryz.func3 rfl Tryz.ntmps3 rfl (fun X => ?_)
    repeat' (first
    | (refine c_pick (d_sliceD (a := 0) (b := min da.length db.length) rfl rfl ?hlo ?hhi (Nat.zero_le _) ?hb) ?_; (case hlo => rfl); (case hhi => show (match (AV.dat (PD.val (Value.int IntKind.i64 ↑(min da.length db.length)))) with | AV.dat (.val (.int .i64 x)) => some x | _ => none) = _; rfl); (case hb => with_reducible assumption))
    | (refine c_pick (d_appendOD rfl rfl rfl rfl rfl (by kernel_rfl) rfl rfl ?q1 ?q2) ?_; (case q1 => with_reducible first | assumption | (simp only [List.length_append, List.length_cons, List.length_nil, List.length_drop, List.length_take, List.nil_append]; omega)); (case q2 => with_reducible first | assumption | (simp only [List.length_append, List.length_cons, List.length_nil, List.length_drop, List.length_take, List.nil_append]; omega)))
    | (refine c_pick (d_appendOO rfl rfl rfl rfl rfl rfl (by kernel_rfl) rfl rfl ?q1 ?q2) ?_; (case q1 => with_reducible first | assumption | (simp only [List.length_append, List.length_cons, List.length_nil, List.length_drop, List.length_take, List.nil_append]; omega)); (case q2 => with_reducible first | assumption | (simp only [List.length_append, List.length_cons, List.length_nil, List.length_drop, List.length_take, List.nil_append]; omega)))
    | (show Run _ _ _ _ (Itm.code (Code.region 7 _ _) :: _) _; refine run_hold ?_)
    | refine run_seq ?_
    | (refine k_pick rfl ?_; first | refine k_appendOD rfl rfl rfl rfl rfl (by kernel_rfl) rfl rfl (by with_reducible assumption) (by with_reducible assumption) ?_ | refine k_minN rfl rfl rfl ?_ | refine k_assignD rfl rfl ?_ | refine k_moveD rfl rfl ?_ | refine k_loadW rfl rfl rfl (by first | rfl | (simp only [pdE, qV, cellsD]; rfl)) ?_ | refine k_bin2B rfl rfl rfl rfl ?_ | refine k_pickF rfl rfl (by first | rfl | assumption) rfl ?_ | refine k_boxW rfl rfl rfl (by first | rfl | (simp only [pdE, qV, cellsD]; rfl)) ?_ | refine k_lenD rfl rfl ?_ | refine k_not rfl rfl ?_ | refine k_buildSlice rfl rfl (by kernel_rfl) rfl rfl rfl rfl rfl ?_ | refine k_callZ gV rfl (by kernel_rfl) rfl (by first | exact c1 | (simp only [← pdE, ← qV]; exact c1) | exact c2 | (simp only [← pdE, ← qV]; exact c2) | exact c3 | (simp only [← pdE, ← qV]; exact c3) | exact c4 | (simp only [← pdE, ← qV]; exact c4) | exact c5 | (simp only [← pdE, ← qV]; exact c5) | exact c6 | (simp only [← pdE, ← qV]; exact c6) | exact k1 | (simp only [← pdE, ← qV]; exact k1) | exact k2 | (simp only [← pdE, ← qV]; exact k2) | exact k3 | (simp only [← pdE, ← qV]; exact k3)) Flat.val ?_)
    | refine run_opsEnd ?_
    | refine run_region ?_
    | refine run_condF rfl (by first | rfl | assumption) ?_
    | (refine k_guardY rfl rfl (by first | rfl | assumption) ?_; first | refine k_moveD rfl rfl ?_ | refine k_loadW rfl rfl rfl (by first | rfl | (simp only [pdE, qV, cellsD]; rfl)) ?_ | refine k_bin2B rfl rfl rfl rfl ?_ | refine k_call rfl (by kernel_rfl) rfl (by first | exact c1 | (simp only [← pdE, ← qV]; exact c1) | exact c2 | (simp only [← pdE, ← qV]; exact c2) | exact c3 | (simp only [← pdE, ← qV]; exact c3) | exact c4 | (simp only [← pdE, ← qV]; exact c4) | exact c5 | (simp only [← pdE, ← qV]; exact c5) | exact c6 | (simp only [← pdE, ← qV]; exact c6) | exact k1 | (simp only [← pdE, ← qV]; exact k1) | exact k2 | (simp only [← pdE, ← qV]; exact k2) | exact k3 | (simp only [← pdE, ← qV]; exact k3)) ?_ | refine k_lenD rfl rfl ?_ | refine k_not rfl rfl ?_)
    | refine run_skip ?_
    | refine run_drawC (by kernel_rfl) ?_
    | refine c_nil (And.intro (by kernel_rfl) ?_)
    | refine c_pick (d_moveD rfl rfl) ?_
    | refine c_pick (d_loadW rfl rfl rfl (by first | rfl | (simp only [pdE, qV, cellsD]; rfl))) ?_
    | refine c_pick (d_assignO rfl rfl) ?_
    | refine c_pick (d_buildSlice rfl rfl (by kernel_rfl) rfl rfl rfl rfl rfl) ?_
    | fail)
    refine ⟨?_⟩
    refine run_frz (fun _ => false) (fun k => Nat.beq k 62 || Nat.beq k 70) ?_
    repeat' (first
    | (refine c_pick (d_sliceD (a := 0) (b := min da.length db.length) rfl rfl ?hlo ?hhi (Nat.zero_le _) ?hb) ?_; (case hlo => rfl); (case hhi => show (match (AV.dat (PD.val (Value.int IntKind.i64 ↑(min da.length db.length)))) with | AV.dat (.val (.int .i64 x)) => some x | _ => none) = _; rfl); (case hb => with_reducible assumption))
    | refine run_seq ?_
    | (refine k_pick rfl ?_; first | refine k_assignD rfl rfl ?_ | refine k_moveD rfl rfl ?_ | refine k_loadBD rfl rfl rfl (by first | rfl | (simp only [pdE, qV, cellsD]; rfl)) ?_ | refine k_pickT rfl rfl (by first | rfl | assumption) rfl ?_ | refine k_pickF rfl rfl (by first | rfl | assumption) rfl ?_ | refine k_call rfl (by kernel_rfl) rfl (by first | exact c5 | (simp only [← pdE, ← qV]; exact c5) | exact c6 | (simp only [← pdE, ← qV]; exact c6) | exact k1 | (simp only [← pdE, ← qV]; exact k1) | exact k2 | (simp only [← pdE, ← qV]; exact k2) | exact k3 | (simp only [← pdE, ← qV]; exact k3)) ?_ | refine k_extract rfl rfl rfl ?_ | refine k_not rfl rfl ?_ | refine k_storeW rfl rfl rfl (by first | rfl | (simp only [pdE, qV, cellsD]; rfl)) (by first | rfl | (simp only [pdE, qV, cellsD]; rfl)) rfl ?_ | refine k_alloc rfl rfl ?_)
    | refine run_opsEnd ?_
    | refine run_region ?_
    | refine run_condF rfl (by first | rfl | assumption) ?_
    | (refine k_guardY rfl rfl (by first | rfl | assumption) ?_; first | refine k_loadW rfl rfl rfl (by first | rfl | (simp only [pdE, qV, cellsD]; rfl)) ?_ | refine k_loadBD rfl rfl rfl (by first | rfl | (simp only [pdE, qV, cellsD]; rfl)) ?_ | refine k_call rfl (by kernel_rfl) rfl (by first | exact c5 | (simp only [← pdE, ← qV]; exact c5) | exact c6 | (simp only [← pdE, ← qV]; exact c6) | exact k1 | (simp only [← pdE, ← qV]; exact k1) | exact k2 | (simp only [← pdE, ← qV]; exact k2) | exact k3 | (simp only [← pdE, ← qV]; exact k3)) ?_ | refine k_not rfl rfl ?_)
    | refine k_guardU rfl rfl rfl ?_
    | refine k_guardNF rfl rfl (by first | rfl | assumption) rfl ?_
    | refine run_skip ?_
    | refine run_retOk (resOk_tmp rfl rfl ?_)
    | refine run_drawC (by kernel_rfl) ?_
    | refine c_nil (And.intro (by kernel_rfl) ?_)
    | refine c_pick (d_assignD rfl rfl) ?_
    | refine c_pick (d_moveD rfl rfl) ?_
    | refine c_pick (d_loadBD rfl rfl rfl (by first | rfl | (simp only [pdE, qV, cellsD]; rfl))) ?_
    | refine c_pick (d_call rfl (by kernel_rfl) rfl (by first | exact c5 | (simp only [← pdE, ← qV]; exact c5) | exact c6 | (simp only [← pdE, ← qV]; exact c6) | exact k1 | (simp only [← pdE, ← qV]; exact k1) | exact k2 | (simp only [← pdE, ← qV]; exact k2) | exact k3 | (simp only [← pdE, ← qV]; exact k3))) ?_
    | refine c_pick (d_extract rfl rfl rfl) ?_
    | refine c_pick (d_storeW rfl rfl rfl (by first | rfl | (simp only [pdE, qV, cellsD]; rfl)) (by first | rfl | (simp only [pdE, qV, cellsD]; rfl)) rfl) ?_
    | refine c_pick (d_alloc rfl rfl) ?_
    | fail)
    all_goals exact PLe.refl _
  | false =>
    rw [hoth he] at k2
    have c7 := sameC_p (resM r3) (resM r3) rfl
    rw [he] at c6
    clear he hoth
    generalize resM r3 = y3 at *
    generalize cleanV v = cv at *
    generalize r3.isSome = z3 at *
    cases z3
    all_goals
      refine pcall_of_run Tryz.func3 rfl Tryz.ntmps3 rfl (fun X => ?_)
      repeat' (first
    | (refine c_pick (d_sliceD (a := 0) (b := min da.length db.length) rfl rfl ?hlo ?hhi (Nat.zero_le _) ?hb) ?_; (case hlo => rfl); (case hhi => show (match (AV.dat (PD.val (Value.int IntKind.i64 ↑(min da.length db.length)))) with | AV.dat (.val (.int .i64 x)) => some x | _ => none) = _; rfl); (case hb => with_reducible assumption))
    | (refine c_pick (d_appendOD rfl rfl rfl rfl rfl (by kernel_rfl) rfl rfl ?q1 ?q2) ?_; (case q1 => with_reducible first | assumption | (simp only [List.length_append, List.length_cons, List.length_nil, List.length_drop, List.length_take, List.nil_append]; omega)); (case q2 => with_reducible first | assumption | (simp only [List.length_append, List.length_cons, List.length_nil, List.length_drop, List.length_take, List.nil_append]; omega)))
    | (refine c_pick (d_appendOO rfl rfl rfl rfl rfl rfl (by kernel_rfl) rfl rfl ?q1 ?q2) ?_; (case q1 => with_reducible first | assumption | (simp only [List.length_append, List.length_cons, List.length_nil, List.length_drop, List.length_take, List.nil_append]; omega)); (case q2 => with_reducible first | assumption | (simp only [List.length_append, List.length_cons, List.length_nil, List.length_drop, List.length_take, List.nil_append]; omega)))
    | (show Run _ _ _ _ (Itm.code (Code.region 7 _ _) :: _) _; refine run_hold ?_)
    | refine run_seq ?_
    | (refine k_pick rfl ?_; first | refine k_appendOD rfl rfl rfl rfl rfl (by kernel_rfl) rfl rfl (by with_reducible assumption) (by with_reducible assumption) ?_ | refine k_minN rfl rfl rfl ?_ | refine k_assignD rfl rfl ?_ | refine k_moveD rfl rfl ?_ | refine k_loadW rfl rfl rfl (by first | rfl | (simp only [pdE, qV, cellsD]; rfl)) ?_ | refine k_bin2B rfl rfl rfl rfl ?_ | refine k_pickF rfl rfl (by first | rfl | assumption) rfl ?_ | refine k_boxW rfl rfl rfl (by first | rfl | (simp only [pdE, qV, cellsD]; rfl)) ?_ | refine k_lenD rfl rfl ?_ | refine k_not rfl rfl ?_ | refine k_buildSlice rfl rfl (by kernel_rfl) rfl rfl rfl rfl rfl ?_ | refine k_callZ gV rfl (by kernel_rfl) rfl (by first | exact c1 | (simp only [← pdE, ← qV]; exact c1) | exact c2 | (simp only [← pdE, ← qV]; exact c2) | exact c3 | (simp only [← pdE, ← qV]; exact c3) | exact c4 | (simp only [← pdE, ← qV]; exact c4) | exact c5 | (simp only [← pdE, ← qV]; exact c5) | exact c6 | (simp only [← pdE, ← qV]; exact c6) | exact c7 | (simp only [← pdE, ← qV]; exact c7) | exact k1 | (simp only [← pdE, ← qV]; exact k1) | exact k2 | (simp only [← pdE, ← qV]; exact k2) | exact k3 | (simp only [← pdE, ← qV]; exact k3)) Flat.val ?_)
    | refine run_opsEnd ?_
    | refine run_region ?_
    | refine run_condF rfl (by first | rfl | assumption) ?_
    | (refine k_guardY rfl rfl (by first | rfl | assumption) ?_; first | refine k_moveD rfl rfl ?_ | refine k_loadW rfl rfl rfl (by first | rfl | (simp only [pdE, qV, cellsD]; rfl)) ?_ | refine k_bin2B rfl rfl rfl rfl ?_ | refine k_call rfl (by kernel_rfl) rfl (by first | exact c1 | (simp only [← pdE, ← qV]; exact c1) | exact c2 | (simp only [← pdE, ← qV]; exact c2) | exact c3 | (simp only [← pdE, ← qV]; exact c3) | exact c4 | (simp only [← pdE, ← qV]; exact c4) | exact c5 | (simp only [← pdE, ← qV]; exact c5) | exact c6 | (simp only [← pdE, ← qV]; exact c6) | exact c7 | (simp only [← pdE, ← qV]; exact c7) | exact k1 | (simp only [← pdE, ← qV]; exact k1) | exact k2 | (simp only [← pdE, ← qV]; exact k2) | exact k3 | (simp only [← pdE, ← qV]; exact k3)) ?_ | refine k_lenD rfl rfl ?_ | refine k_not rfl rfl ?_)
    | refine run_skip ?_
    | refine run_drawC (by kernel_rfl) ?_
    | refine c_nil (And.intro (by kernel_rfl) ?_)
    | refine c_pick (d_moveD rfl rfl) ?_
    | refine c_pick (d_loadW rfl rfl rfl (by first | rfl | (simp only [pdE, qV, cellsD]; rfl))) ?_
    | refine c_pick (d_assignO rfl rfl) ?_
    | refine c_pick (d_buildSlice rfl rfl (by kernel_rfl) rfl rfl rfl rfl rfl) ?_
    | fail)
      refine ⟨?_⟩
      refine run_frz (fun _ => false) (fun k => Nat.beq k 62 || Nat.beq k 70) ?_
      repeat' (first
    | (refine c_pick (d_sliceD (a := 0) (b := min da.length db.length) rfl rfl ?hlo ?hhi (Nat.zero_le _) ?hb) ?_; (case hlo => rfl); (case hhi => show (match (AV.dat (PD.val (Value.int IntKind.i64 ↑(min da.length db.length)))) with | AV.dat (.val (.int .i64 x)) => some x | _ => none) = _; rfl); (case hb => with_reducible assumption))
    | refine run_seq ?_
    | (refine k_pick rfl ?_; first | refine k_assignD rfl rfl ?_ | refine k_moveD rfl rfl ?_ | refine k_loadBD rfl rfl rfl (by first | rfl | (simp only [pdE, qV, cellsD]; rfl)) ?_ | refine k_pickF rfl rfl (by first | rfl | assumption) rfl ?_ | refine k_call rfl (by kernel_rfl) rfl (by first | exact c5 | (simp only [← pdE, ← qV]; exact c5) | exact c6 | (simp only [← pdE, ← qV]; exact c6) | exact c7 | (simp only [← pdE, ← qV]; exact c7) | exact k1 | (simp only [← pdE, ← qV]; exact k1) | exact k2 | (simp only [← pdE, ← qV]; exact k2) | exact k3 | (simp only [← pdE, ← qV]; exact k3)) ?_ | refine k_extract rfl rfl rfl ?_ | refine k_not rfl rfl ?_ | refine k_storeW rfl rfl rfl (by first | rfl | (simp only [pdE, qV, cellsD]; rfl)) (by first | rfl | (simp only [pdE, qV, cellsD]; rfl)) rfl ?_ | refine k_alloc rfl rfl ?_)
    | refine run_opsEnd ?_
    | refine run_region ?_
    | refine run_condF rfl (by first | rfl | assumption) ?_
    | (refine k_guardY rfl rfl (by first | rfl | assumption) ?_; first | refine k_moveD rfl rfl ?_ | refine k_loadW rfl rfl rfl (by first | rfl | (simp only [pdE, qV, cellsD]; rfl)) ?_ | refine k_loadBD rfl rfl rfl (by first | rfl | (simp only [pdE, qV, cellsD]; rfl)) ?_ | refine k_pickT rfl rfl (by first | rfl | assumption) rfl ?_ | refine k_call rfl (by kernel_rfl) rfl (by first | exact c5 | (simp only [← pdE, ← qV]; exact c5) | exact c6 | (simp only [← pdE, ← qV]; exact c6) | exact c7 | (simp only [← pdE, ← qV]; exact c7) | exact k1 | (simp only [← pdE, ← qV]; exact k1) | exact k2 | (simp only [← pdE, ← qV]; exact k2) | exact k3 | (simp only [← pdE, ← qV]; exact k3)) ?_ | refine k_cmpBool rfl rfl rfl (by kernel_rfl) rfl ?_ | refine k_not rfl rfl ?_)
    | refine run_skip ?_
    | refine run_retOk (resOk_tmp rfl rfl ?_)
    | refine run_drawC (by kernel_rfl) ?_
    | refine c_nil (And.intro (by kernel_rfl) ?_)
    | refine c_pick (d_assignD rfl rfl) ?_
    | refine c_pick (d_moveD rfl rfl) ?_
    | refine c_pick (d_loadBD rfl rfl rfl (by first | rfl | (simp only [pdE, qV, cellsD]; rfl))) ?_
    | refine c_pick (d_call rfl (by kernel_rfl) rfl (by first | exact c5 | (simp only [← pdE, ← qV]; exact c5) | exact c6 | (simp only [← pdE, ← qV]; exact c6) | exact c7 | (simp only [← pdE, ← qV]; exact c7) | exact k1 | (simp only [← pdE, ← qV]; exact k1) | exact k2 | (simp only [← pdE, ← qV]; exact k2) | exact k3 | (simp only [← pdE, ← qV]; exact k3))) ?_
    | refine c_pick (d_extract rfl rfl rfl) ?_
    | refine c_pick (d_storeW rfl rfl rfl (by first | rfl | (simp only [pdE, qV, cellsD]; rfl)) (by first | rfl | (simp only [pdE, qV, cellsD]; rfl)) rfl) ?_
    | refine c_pick (d_alloc rfl rfl) ?_
    | fail)
    all_goals exact PLe.refl _
end Go.Proofs.YtgmahieoiifpfaaGreat
end
section
namespace Go.Proofs.YtgmahieoiifpfaaGreat
open Go.ChangeShapes Go.WideShapes Go.ChangeAt Go.RowKit
theorem trodFloat {H : Type} {enc : TypeId × Value → H} {P : Program} {w : World} {base : Nat} {spare : Nat → Bool} {held : Bool} {fuel : Nat} {t : TypeId} {cs : List Value} {x : DataW H × List MemPlace} {k : FloatKind}
    (ht : P.underlying t = some (.float k)) (h : DataW.trod enc P w base spare held fuel t cs = some x) : ∃ n, cs = [.float k n] ∧ (Lit.float k n).wf = true := by
  cases fuel with
  | zero => simp [DataW.trod] at h
  | succ n =>
    unfold DataW.trod at h
    rw [ht] at h
    split at h <;> simp_all
theorem weights_mem_all {H : Type} {P : Program} {e : TypeId} : ∀ {ds : List (DataW H)} {d : DataW H}, d ∈ ds → ∀ n ∈ d.weights P e, n ∈ DataW.weightsAll P e ds
  | d0 :: ds, d, hd, n, hn => by
    simp only [DataW.weightsAll, List.mem_append]
    rcases List.mem_cons.1 hd with rfl | hd
    · exact .inl hn
    · exact .inr (weights_mem_all hd n hn)
theorem Tryz.cellsVal : Tryz.prog.cellsOf 27 = 6 := by kernel_rfl
theorem Tryz.cellsStr : Tryz.prog.cellsOf 9 = 1 := by kernel_rfl
theorem Tryz.cellsInt : Tryz.prog.cellsOf 3 = 1 := by kernel_rfl
theorem Tryz.cellsInt64 : Tryz.prog.cellsOf 2 = 1 := by kernel_rfl
theorem Tryz.cellsFlt : Tryz.prog.cellsOf 25 = 1 := by kernel_rfl
theorem Tryz.cellsStrs : Tryz.prog.cellsOf 24 = 1 := by kernel_rfl
theorem Tryz.cellsVals : Tryz.prog.cellsOf 23 = 1 := by kernel_rfl
theorem Tryz.bytesVal : Tryz.prog.bytesOf 27 = 88 := by kernel_rfl
theorem Tryz.bytesStr : Tryz.prog.bytesOf 9 = 16 := by kernel_rfl
theorem cells_six {w : World} {base : Nat} {a : Addr} {cs : List Value} (h : w.cells? base a 6 = some cs) :
    ∃ c0 c1 c2 c3 c4 c5, cs = [c0, c1, c2, c3, c4, c5] ∧ w.cell? a = some c0 ∧ w.cell? (a.add 1) = some c1 ∧ w.cell? (a.add 2) = some c2 ∧ w.cell? (a.add 3) = some c3 ∧ w.cell? (a.add 4) = some c4 ∧ w.cell? (a.add 5) = some c5 := by
  unfold World.cells? at h
  split at h
  · simp only [List.range, List.range.loop, List.mapM_cons, List.mapM_nil] at h
    simp only [Option.bind_eq_bind, Option.bind_eq_some_iff, Option.pure_def, Option.some.injEq] at h
    obtain ⟨c0, h0, l1, ⟨c1, h1, l2, ⟨c2, h2, l3, ⟨c3, h3, l4, ⟨c4, h4, l5, ⟨c5, h5, l6, e6, e5⟩, e4⟩, e3⟩, e2⟩, e1⟩, e0⟩ := h
    subst e6 e5 e4 e3 e2 e1 e0
    exact ⟨c0, c1, c2, c3, c4, c5, rfl, by simpa [Addr.add] using h0, h1, h2, h3, h4, h5⟩
  · simp at h
theorem isVs_of {w : World} {S : Nat → Prop} {b : Nat} : ∀ (n o : Nat), (∀ i, i < n → ∃ x c0 c1 c2 c3 c4 c5, w.cell? ⟨b, o + i * 6, none⟩ = some c0 ∧ w.cell? ⟨b, o + i * 6 + 1, none⟩ = some c1 ∧ w.cell? ⟨b, o + i * 6 + 2, none⟩ = some c2 ∧
      w.cell? ⟨b, o + i * 6 + 3, none⟩ = some c3 ∧ w.cell? ⟨b, o + i * 6 + 4, none⟩ = some c4 ∧ w.cell? ⟨b, o + i * 6 + 5, none⟩ = some c5 ∧ IsV w S x (.agg #[c0, c1, c2, c3, c4, c5])) → ∃ l : List GV, l.length = n ∧ IsVs w S l b o
  | 0, _, _ => ⟨[], rfl, by simp [IsVs]⟩
  | n + 1, o, h => by
    obtain ⟨x, c0, c1, c2, c3, c4, c5, h0⟩ := h 0 (Nat.succ_pos _)
    obtain ⟨l, hl, hv⟩ := isVs_of (w := w) (S := S) (b := b) n (o + 6) (fun i hi => by
      have := h (i + 1) (by omega)
      rwa [show o + (i + 1) * 6 = o + 6 + i * 6 by omega] at this)
    refine ⟨x :: l, by simp [hl], ?_⟩
    unfold IsVs
    exact ⟨⟨c0, c1, c2, c3, c4, c5, by simpa using h0⟩, hv⟩
theorem isStrs_of_trod {H : Type} {enc : TypeId × Value → H} {w : World} {fuel : Nat} {cs : List Value} {d : DataW H} {ps : List MemPlace}
    (h : DataW.trod enc Tryz.prog w 0 (fun _ => true) true fuel 24 cs = some (d, ps)) (hw : ∀ n ∈ d.weights Tryz.prog 24, n ≤ reachBytes) :
    ∃ v ks, cs = [v] ∧ IsStrs w (Btw 0 w.heap.size) v ks := by
  rcases open_strings Tryz.underlying24 Tryz.underlying9 Tryz.cellsStr h with ⟨rfl, hx⟩ | ⟨a, len, cap, ss, rfl, _, hl, hm, hz, hx, hcell, hws⟩
  · exact ⟨_, [], rfl, none, 0, rfl, Nat.le_refl _, by decide, by simp, fun h => by simp at h⟩
  · simp only [if_true] at hz
    simp only [Prod.mk.injEq] at hx
    obtain ⟨rfl, rfl⟩ := hx
    have hlen : (ss.take len).length = len := by simp; omega
    have hsz := hw (((strs (H := H) (ss.take len)).length + (strs (H := H) (ss.drop len)).length) * Tryz.prog.bytesOf 9) (by simp [DataW.weights, Tryz.underlying24])
    rw [Tryz.bytesStr] at hsz
    simp only [strs, List.length_map, List.length_take, List.length_drop, reachBytes] at hsz
    refine ⟨_, ss.take len, rfl, some a, cap, by rw [hlen], by rw [hlen]; exact hl, by rw [hlen]; omega, fun s hs => hws s (List.mem_of_mem_take hs), fun hp => ?_⟩
    rw [hlen] at hp
    have h0 := hcell 0 (by omega)
    have hspot : a.spot = none := by simpa [Addr.add] using World.cell?_spot h0
    obtain ⟨b, o, sp⟩ := a
    subst hspot
    refine ⟨b, o, ⟨Nat.zero_le _, by have := World.block_lt_of_cell? w _ h0; simpa [Addr.add] using this⟩, rfl, fun i hi => ?_⟩
    rw [hlen] at hi
    have := hcell i (by omega)
    rw [add_plain] at this
    rw [this]
    simp [List.getD, hi]
set_option maxRecDepth 100000 in
set_option maxHeartbeats 1000000 in
theorem isV_of_trod {H : Type} {enc : TypeId × Value → H} {w : World} (fuel : Nat) {cs : List Value} {d : DataW H} {ps : List MemPlace}
    (h : DataW.trod enc Tryz.prog w 0 (fun _ => true) true fuel 27 cs = some (d, ps)) (hw : ∀ n ∈ d.weights Tryz.prog 27, n ≤ reachBytes) :
    ∃ x c0 c1 c2 c3 c4 c5, cs = [c0, c1, c2, c3, c4, c5] ∧ IsV w (Btw 0 w.heap.size) x (.agg #[c0, c1, c2, c3, c4, c5]) := by
  obtain ⟨xs, n, rfl, hx, hl, hlen, hf⟩ := DataW.trod_struct Tryz.underlying27 h
  rw [Tryz.cellsVal] at hl
  match cs, hl with
  | [c0, c1, c2, c3, c4, c5], _ =>
  match xs, hlen with
  | [y0, y1, y2, y3, y4, y5], _ =>
  have h0 : DataW.trod enc Tryz.prog w 0 (fun _ => true) true n 3 (([c0, c1, c2, c3, c4, c5].drop 0).take (Tryz.prog.cellsOf 3)) = some y0 := (by have g := hf 0 _ rfl; exact g)
  have h1 : DataW.trod enc Tryz.prog w 0 (fun _ => true) true n 2 (([c0, c1, c2, c3, c4, c5].drop 1).take (Tryz.prog.cellsOf 2)) = some y1 := (by have g := hf 1 _ rfl; exact g)
  have h2 : DataW.trod enc Tryz.prog w 0 (fun _ => true) true n 25 (([c0, c1, c2, c3, c4, c5].drop 2).take (Tryz.prog.cellsOf 25)) = some y2 := (by have g := hf 2 _ rfl; exact g)
  have h3 : DataW.trod enc Tryz.prog w 0 (fun _ => true) true n 9 (([c0, c1, c2, c3, c4, c5].drop 3).take (Tryz.prog.cellsOf 9)) = some y3 := (by have g := hf 3 _ rfl; exact g)
  have h4 : DataW.trod enc Tryz.prog w 0 (fun _ => true) true n 24 (([c0, c1, c2, c3, c4, c5].drop 4).take (Tryz.prog.cellsOf 24)) = some y4 := (by have g := hf 4 _ rfl; exact g)
  have h5 : DataW.trod enc Tryz.prog w 0 (fun _ => true) true n 23 (([c0, c1, c2, c3, c4, c5].drop 5).take (Tryz.prog.cellsOf 23)) = some y5 := (by have g := hf 5 _ rfl; exact g)
  clear hf h
  simp only [Tryz.cellsInt, Tryz.cellsInt64, Tryz.cellsFlt, Tryz.cellsStr, Tryz.cellsStrs, Tryz.cellsVals, List.drop_zero, List.drop_succ_cons, List.take_succ_cons, List.take_zero] at h0 h1 h2 h3 h4 h5
  simp only [Prod.mk.injEq] at hx
  obtain ⟨rfl, rfl⟩ := hx
  obtain ⟨k, e0, -, w0⟩ := DataW.trod_int Tryz.underlying3 h0
  obtain ⟨m, e1, -, w1⟩ := DataW.trod_int Tryz.underlying2 h1
  obtain ⟨f, e2, w2⟩ := trodFloat Tryz.underlying25 h2
  obtain ⟨s, e3, -, w3⟩ := DataW.trod_string Tryz.underlying9 h3
  simp only [DataW.weights, Tryz.underlying27, List.map_cons, List.map_nil, DataW.weightsEach, List.mem_append, List.append_nil] at hw
  obtain ⟨v4, ks, e4, hks⟩ := isStrs_of_trod (d := y4.1) (ps := y4.2) h4 (fun n hn => hw n (by simp [hn]))
  simp only [List.cons.injEq, and_true] at e0 e1 e2 e3 e4
  subst e0 e1 e2 e3 e4
  have hw5 : ∀ n ∈ y5.1.weights Tryz.prog 23, n ≤ reachBytes := fun n hn => hw n (by simp [hn])
  clear h0 h1 h2 h3 h4 hw
  rcases DataW.trod_slice Tryz.underlying23 h5 with ⟨e5, -⟩ | ⟨a, len, cap, elems, rest, n', hn', e5, hx5, _, hlc, hm, hlen5, hel, _, _⟩
  · simp only [List.cons.injEq, and_true] at e5
    subst e5
    refine ⟨.mk k m f s ks [], _, _, _, _, _, _, rfl, ?_⟩
    unfold IsV
    exact ⟨_, none, 0, rfl, w0, w1, w2, w3, hks, Nat.le_refl _, by decide, .inl rfl⟩
  · simp only [List.cons.injEq, and_true] at e5
    subst e5
    rw [hx5] at hw5
    simp only [DataW.weights, Tryz.underlying23, Tryz.bytesVal, List.length_map] at hw5
    have hsz := hw5 ((elems.length + rest.length) * 88) (by simp)
    simp only [reachBytes] at hsz
    rw [Tryz.cellsVal] at hel
    have key : ∀ i, i < len → ∃ x c0 c1 c2 c3 c4 c5, w.cell? (a.add (i * 6)) = some c0 ∧ w.cell? ((a.add (i * 6)).add 1) = some c1 ∧ w.cell? ((a.add (i * 6)).add 2) = some c2 ∧
        w.cell? ((a.add (i * 6)).add 3) = some c3 ∧ w.cell? ((a.add (i * 6)).add 4) = some c4 ∧ w.cell? ((a.add (i * 6)).add 5) = some c5 ∧ IsV w (Btw 0 w.heap.size) x (.agg #[c0, c1, c2, c3, c4, c5]) := by
      intro i hi
      have hb := hel i hi
      obtain ⟨y, hy⟩ : ∃ y, elems[i]? = some y := ⟨elems[i], by simp [hlen5, hi]⟩
      rw [hy, Option.bind_eq_some_iff] at hb
      obtain ⟨cs', hcs, hb⟩ := hb
      obtain ⟨x, c0, c1, c2, c3, c4, c5, rfl, hv⟩ := isV_of_trod n' (d := y.1) (ps := y.2) hb (fun q hq => hw5 q (by
        simp only [List.mem_cons, List.mem_append]
        exact .inr (.inl (weights_mem_all (List.mem_map_of_mem (List.mem_of_getElem? hy)) q hq))))
      obtain ⟨d0, d1, d2, d3, d4, d5, e, g⟩ := cells_six hcs
      simp only [List.cons.injEq, and_true] at e
      obtain ⟨rfl, rfl, rfl, rfl, rfl, rfl⟩ := e
      exact ⟨x, _, _, _, _, _, _, g.1, g.2.1, g.2.2.1, g.2.2.2.1, g.2.2.2.2.1, g.2.2.2.2.2, hv⟩
    by_cases hl0 : len = 0
    · subst hl0
      refine ⟨.mk k m f s ks [], _, _, _, _, _, _, rfl, ?_⟩
      unfold IsV
      exact ⟨_, some a, cap, rfl, w0, w1, w2, w3, hks, Nat.zero_le _, by decide, .inl rfl⟩
    · obtain ⟨_, _, _, _, _, _, _, g0, _⟩ := key 0 (by omega)
      have hspot : a.spot = none := by simpa [Addr.add] using World.cell?_spot g0
      have hlt := World.block_lt_of_cell? w _ g0
      obtain ⟨b, o, sp⟩ := a
      subst hspot
      simp only [add_plain] at key
      obtain ⟨l, hll, hvs⟩ := isVs_of (b := b) len o key
      refine ⟨.mk k m f s ks l, _, _, _, _, _, _, rfl, ?_⟩
      unfold IsV
      exact ⟨_, _, cap, by rw [hll], w0, w1, w2, w3, hks, by omega, by omega, .inr ⟨b, o, ⟨Nat.zero_le _, by simpa [Addr.add] using hlt⟩, rfl, hvs⟩⟩
termination_by fuel
decreasing_by omega
set_option maxRecDepth 100000 in
/-- An argument of type impl.Value. -/
theorem isV_of_arg {H : Type} {enc : TypeId × Value → H} {w : World} {v : Value} {d : DataW H} {ps : List MemPlace} {base : Nat} (hv : Value.okWide Tryz.prog w .any base 27 v)
    (h : DataW.Trod enc Tryz.prog w 0 (fun _ => true) true 27 v d ps) (hw : ∀ n ∈ d.weights Tryz.prog 27, n ≤ reachBytes) : ∃ x, IsV w (Btw 0 w.heap.size) x v := by
  obtain ⟨cs, rfl, _⟩ := okWide_struct Tryz.underlying27 hv
  obtain ⟨fuel, hf⟩ := h
  obtain ⟨x, c0, c1, c2, c3, c4, c5, e, hx⟩ := isV_of_trod fuel hf hw
  have : cs = #[c0, c1, c2, c3, c4, c5] := by
    have e' : cs.toList = [c0, c1, c2, c3, c4, c5] := e
    rw [← Array.toArray_toList (xs := cs), e']
  subst this
  exact ⟨x, hx⟩
end Go.Proofs.YtgmahieoiifpfaaGreat
end
section
namespace Go.Proofs.YtgmahieoiifpfaaGreat
open Go.ChangeShapes Go.WideShapes Go.ChangeAt Go.RowKit
theorem Tryz.cellsElem : Tryz.prog.cellsOf 29 = 11 := by kernel_rfl
set_option maxHeartbeats 1000000 in
theorem isL_of_trod {H : Type} {enc : TypeId × Value → H} {w : World} (fuel : Nat) {cs : List Value} {d : DataW H} {ps : List MemPlace}
    (h5 : DataW.trod enc Tryz.prog w 0 (fun _ => true) true fuel 23 cs = some (d, ps)) (hw5 : ∀ n ∈ d.weights Tryz.prog 23, n ≤ reachBytes) :
    ∃ a c, ∃ l : List GV, cs = [.slice a l.length c] ∧ l.length ≤ c ∧ l.length * 88 ≤ 140737488351232 ∧ (l = [] ∨ ∃ b o, Btw 0 w.heap.size b ∧ a = some ⟨b, o, none⟩ ∧ IsVs w (Btw 0 w.heap.size) l b o) := by
  rcases DataW.trod_slice Tryz.underlying23 h5 with ⟨e5, -⟩ | ⟨a, len, cap, elems, rest, n', hn', e5, hx5, _, hlc, hm, hlen5, hel, _, _⟩
  · exact ⟨none, 0, [], e5, Nat.le_refl _, by decide, .inl rfl⟩
  · obtain ⟨rfl, _⟩ : d = _ ∧ ps = _ := by simpa only [Prod.mk.injEq] using hx5
    simp only [DataW.weights, Tryz.underlying23, Tryz.bytesVal, List.length_map] at hw5
    have hsz := hw5 ((elems.length + rest.length) * 88) (by simp)
    simp only [reachBytes] at hsz
    rw [Tryz.cellsVal] at hel
    have key : ∀ i, i < len → ∃ x c0 c1 c2 c3 c4 c5, w.cell? (a.add (i * 6)) = some c0 ∧ w.cell? ((a.add (i * 6)).add 1) = some c1 ∧ w.cell? ((a.add (i * 6)).add 2) = some c2 ∧
        w.cell? ((a.add (i * 6)).add 3) = some c3 ∧ w.cell? ((a.add (i * 6)).add 4) = some c4 ∧ w.cell? ((a.add (i * 6)).add 5) = some c5 ∧ IsV w (Btw 0 w.heap.size) x (.agg #[c0, c1, c2, c3, c4, c5]) := by
      intro i hi
      have hb := hel i hi
      obtain ⟨y, hy⟩ : ∃ y, elems[i]? = some y := ⟨elems[i], by simp [hlen5, hi]⟩
      rw [hy, Option.bind_eq_some_iff] at hb
      obtain ⟨cs', hcs, hb⟩ := hb
      obtain ⟨x, c0, c1, c2, c3, c4, c5, rfl, hv⟩ := isV_of_trod n' (d := y.1) (ps := y.2) hb (fun q hq => hw5 q (by
        simp only [List.mem_cons, List.mem_append]
        exact .inr (.inl (weights_mem_all (List.mem_map_of_mem (List.mem_of_getElem? hy)) q hq))))
      obtain ⟨d0, d1, d2, d3, d4, d5, e, g⟩ := cells_six hcs
      simp only [List.cons.injEq, and_true] at e
      obtain ⟨rfl, rfl, rfl, rfl, rfl, rfl⟩ := e
      exact ⟨x, _, _, _, _, _, _, g.1, g.2.1, g.2.2.1, g.2.2.2.1, g.2.2.2.2.1, g.2.2.2.2.2, hv⟩
    by_cases hl0 : len = 0
    · subst hl0
      exact ⟨some a, cap, [], e5, Nat.zero_le _, by decide, .inl rfl⟩
    · obtain ⟨_, _, _, _, _, _, _, g0, _⟩ := key 0 (by omega)
      have hspot : a.spot = none := by simpa [Addr.add] using World.cell?_spot g0
      have hlt := World.block_lt_of_cell? w _ g0
      obtain ⟨b, o, sp⟩ := a
      subst hspot
      simp only [add_plain] at key
      obtain ⟨l, hll, hvs⟩ := isVs_of (b := b) len o key
      exact ⟨_, cap, l, by rw [hll]; exact e5, by omega, by omega, .inr ⟨b, o, ⟨Nat.zero_le _, by simpa [Addr.add] using hlt⟩, rfl, hvs⟩⟩
set_option maxRecDepth 100000 in
set_option maxHeartbeats 1000000 in
theorem isE_of_trod {H : Type} {enc : TypeId × Value → H} {w : World} (fuel : Nat) {cs : List Value} {d : DataW H} {ps : List MemPlace}
    (h : DataW.trod enc Tryz.prog w 0 (fun _ => true) true fuel 29 cs = some (d, ps)) (hw : ∀ n ∈ d.weights Tryz.prog 29, n ≤ reachBytes) :
    ∃ x, IsE w (Btw 0 w.heap.size) x (.agg cs.toArray) := by
  obtain ⟨xs, n, rfl, hx, hl, hlen, hf⟩ := DataW.trod_struct Tryz.underlying29 h
  rw [Tryz.cellsElem] at hl
  match cs, hl with
  | [c0, c1, c2, c3, c4, c5, c6, c7, c8, c9, c10], _ =>
  match xs, hlen with
  | [y0, y1, y2, y3, y4, y5], _ =>
  have h0 : DataW.trod enc Tryz.prog w 0 (fun _ => true) true n 3 (([c0, c1, c2, c3, c4, c5, c6, c7, c8, c9, c10].drop 0).take (Tryz.prog.cellsOf 3)) = some y0 := (by have g := hf 0 _ rfl; exact g)
  have h1 : DataW.trod enc Tryz.prog w 0 (fun _ => true) true n 9 (([c0, c1, c2, c3, c4, c5, c6, c7, c8, c9, c10].drop 1).take (Tryz.prog.cellsOf 9)) = some y1 := (by have g := hf 1 _ rfl; exact g)
  have h2 : DataW.trod enc Tryz.prog w 0 (fun _ => true) true n 24 (([c0, c1, c2, c3, c4, c5, c6, c7, c8, c9, c10].drop 2).take (Tryz.prog.cellsOf 24)) = some y2 := (by have g := hf 2 _ rfl; exact g)
  have h3 : DataW.trod enc Tryz.prog w 0 (fun _ => true) true n 23 (([c0, c1, c2, c3, c4, c5, c6, c7, c8, c9, c10].drop 3).take (Tryz.prog.cellsOf 23)) = some y3 := (by have g := hf 3 _ rfl; exact g)
  have h4 : DataW.trod enc Tryz.prog w 0 (fun _ => true) true n 27 (([c0, c1, c2, c3, c4, c5, c6, c7, c8, c9, c10].drop 4).take (Tryz.prog.cellsOf 27)) = some y4 := (by have g := hf 4 _ rfl; exact g)
  have h5 : DataW.trod enc Tryz.prog w 0 (fun _ => true) true n 3 (([c0, c1, c2, c3, c4, c5, c6, c7, c8, c9, c10].drop 10).take (Tryz.prog.cellsOf 3)) = some y5 := (by have g := hf 5 _ rfl; exact g)
  clear hf h
  simp only [Tryz.cellsInt, Tryz.cellsStr, Tryz.cellsStrs, Tryz.cellsVals, Tryz.cellsVal, List.drop_zero, List.drop_succ_cons, List.take_succ_cons, List.take_zero] at h0 h1 h2 h3 h4 h5
  simp only [Prod.mk.injEq] at hx
  obtain ⟨rfl, rfl⟩ := hx
  obtain ⟨k, e0, -, w0⟩ := DataW.trod_int Tryz.underlying3 h0
  obtain ⟨s, e1, -, w1⟩ := DataW.trod_string Tryz.underlying9 h1
  obtain ⟨m, e5, -, w5⟩ := DataW.trod_int Tryz.underlying3 h5
  simp only [DataW.weights, Tryz.underlying29, List.map_cons, List.map_nil, DataW.weightsEach, List.mem_append, List.append_nil] at hw
  obtain ⟨v2, ks, e2, hks⟩ := isStrs_of_trod (d := y2.1) (ps := y2.2) h2 (fun n hn => hw n (by simp [hn]))
  obtain ⟨a, c, l, e3, hlc, hl88, hvs⟩ := isL_of_trod n (d := y3.1) (ps := y3.2) h3 (fun n hn => hw n (by simp [hn]))
  obtain ⟨y, d0, d1, d2, d3, d4, d5, e4, hy⟩ := isV_of_trod n (d := y4.1) (ps := y4.2) h4 (fun n hn => hw n (by simp [hn]))
  simp only [List.cons.injEq, and_true] at e0 e1 e2 e3 e4 e5
  obtain ⟨rfl, rfl, rfl, rfl, rfl, rfl⟩ := e4
  subst e0 e1 e2 e3 e5
  obtain ⟨ak, ck, rfl, hr⟩ := hks
  exact ⟨⟨k, s, ks, l, y, m⟩, ak, ck, a, c, _, _, _, _, _, _, rfl, w0, w5, w1, ⟨ak, ck, rfl, hr⟩, hlc, hl88, hvs, hy⟩
set_option maxRecDepth 100000 in
/-- An argument of type impl.Elem. -/
theorem isE_of_arg {H : Type} {enc : TypeId × Value → H} {w : World} {v : Value} {d : DataW H} {ps : List MemPlace} {base : Nat} (hv : Value.okWide Tryz.prog w .any base 29 v)
    (h : DataW.Trod enc Tryz.prog w 0 (fun _ => true) true 29 v d ps) (hw : ∀ n ∈ d.weights Tryz.prog 29, n ≤ reachBytes) : ∃ x, IsE w (Btw 0 w.heap.size) x v := by
  obtain ⟨cs, rfl, _⟩ := okWide_struct Tryz.underlying29 hv
  obtain ⟨fuel, hf⟩ := h
  obtain ⟨x, hx⟩ := isE_of_trod fuel hf hw
  refine ⟨x, ?_⟩
  have e : cs.toList.toArray = cs := Array.toArray_toList
  have hx' : IsE w (Btw 0 w.heap.size) x (.agg cs.toList.toArray) := hx
  rwa [e] at hx'
end Go.Proofs.YtgmahieoiifpfaaGreat
end
section
namespace Go.Proofs.YtgmahieoiifpfaaGreat
open Go.ChangeShapes Go.WideShapes Go.ChangeAt Go.RowKit
set_option linter.unusedSimpArgs false
section
variable {H : Type} {enc : TypeId × Value → H} {w : World} {F : Nat → Prop}
theorem repAgg {l : List PD} {cs : List Value} : Rep w F (.agg l) (.agg cs.toArray) ↔ Reps w F l cs ∧ ∀ u ∈ cs, u.oneCell' = true := by
  unfold Rep
  constructor
  · rintro ⟨vs, e, h1, h2⟩
    simp only [Value.agg.injEq] at e
    have : cs = vs := by simpa using congrArg Array.toList e
    subst this
    exact ⟨h1, h2⟩
  · rintro ⟨h1, h2⟩
    exact ⟨cs, rfl, h1, h2⟩
theorem repL_of {α : Type} {pd : α → PD} {n b : Nat} : ∀ (m o : Nat), (∀ i, i < m → ∃ x cs, cs.length = n ∧ (∀ u ∈ cs, u.oneCell' = true) ∧ Lies w b (o + i * n) cs ∧ Rep w F (pd x) (.agg cs.toArray)) → ∃ l : List α, l.length = m ∧ RepL w F n (l.map pd) b o
  | 0, _, _ => ⟨[], rfl, by simp [RepL]⟩
  | m + 1, o, h => by
    obtain ⟨x, cs, h1, h2, h3, h4⟩ := h 0 (Nat.succ_pos _)
    obtain ⟨l, hl, hr⟩ := repL_of (pd := pd) (n := n) (b := b) m (o + n) (fun i hi => by
      obtain ⟨x, cs, g1, g2, g3, g4⟩ := h (i + 1) (by omega)
      exact ⟨x, cs, g1, g2, by rwa [show o + (i + 1) * n = o + n + i * n by rw [Nat.succ_mul]; omega] at g3, g4⟩)
    refine ⟨x :: l, by simp [hl], ?_⟩
    rw [List.map_cons]
    unfold RepL
    exact ⟨⟨_, h4, by simpa [Value.cells] using h1, by simpa [Value.cells] using h2, by simpa [Value.cells] using h3⟩, hr⟩
theorem slice_of_trod {α : Type} (pd : α → PD) (hpd : ∀ x, ∃ l, pd x = .agg l) {t e n y : Nat} (ht : Tryz.prog.underlying t = some (.slice e)) (hn : Tryz.prog.cellsOf e = n) (hn0 : 0 < n) (hy : Tryz.prog.bytesOf e = y) (hy0 : 0 < y) {fuel : Nat} {cs : List Value} {d : DataW H} {ps : List MemPlace}
    (h : DataW.trod enc Tryz.prog w 0 (fun _ => true) true fuel t cs = some (d, ps)) (hw : ∀ k ∈ d.weights Tryz.prog t, k ≤ reachBytes)
    (hi : ∀ fuel' cs' d' ps', fuel' < fuel → DataW.trod enc Tryz.prog w 0 (fun _ => true) true fuel' e cs' = some (d', ps') → (∀ k ∈ d'.weights Tryz.prog e, k ≤ reachBytes) → ∃ x, Rep w (Btw 0 w.heap.size) (pd x) (.agg cs'.toArray)) :
    ∃ (l : List α) (v : Value), cs = [v] ∧ Rep w (Btw 0 w.heap.size) (.sl n y (l.map pd)) v := by
  rcases DataW.trod_slice ht h with ⟨e5, -⟩ | ⟨a, len, cap, elems, rest, n', hn', e5, hx5, _, hlc, hm, hlen5, hel, _, _⟩
  · refine ⟨[], _, e5, ?_⟩
    unfold Rep
    exact ⟨none, 0, rfl, Nat.le_refl _, by simp, by simp, .inl rfl⟩
  · obtain ⟨rfl, _⟩ : d = _ ∧ ps = _ := by simpa only [Prod.mk.injEq] using hx5
    simp only [DataW.weights, ht, hy, List.length_map] at hw
    have hsz := hw ((elems.length + rest.length) * y) (by simp)
    simp only [reachBytes] at hsz
    rw [hn] at hel
    have key : ∀ i, i < len → ∃ (x : α) (cs' : List Value), cs'.length = n ∧ (∀ j, j < n → w.cell? ((a.add (i * n)).add j) = cs'[j]?) ∧ Rep w (Btw 0 w.heap.size) (pd x) (.agg cs'.toArray) := by
      intro i hi'
      have hb := hel i hi'
      obtain ⟨z, hz⟩ : ∃ z, elems[i]? = some z := ⟨elems[i], by simp [hlen5, hi']⟩
      rw [hz, Option.bind_eq_some_iff] at hb
      obtain ⟨cs', hcs, hb⟩ := hb
      obtain ⟨x, hx⟩ := hi n' cs' z.1 z.2 (by omega) hb (fun q hq => hw q (by
        simp only [List.mem_cons, List.mem_append]
        exact .inr (.inl (weights_mem_all (List.mem_map_of_mem (List.mem_of_getElem? hz)) q hq))))
      obtain ⟨_, h1, h2⟩ := World.cells?_some hcs
      exact ⟨x, cs', h1, h2, hx⟩
    have hlenB : len * y ≤ 140737488351232 := by
      have : len * y ≤ (elems.length + rest.length) * y := Nat.mul_le_mul_right _ (by omega)
      omega
    have hlenS : len ≤ 140737488351232 := Nat.le_trans (Nat.le_mul_of_pos_right _ hy0) hlenB
    by_cases hl0 : len = 0
    · subst hl0
      refine ⟨[], _, e5, ?_⟩
      unfold Rep
      exact ⟨some a, cap, rfl, Nat.zero_le _, by simp, by simp, .inl rfl⟩
    · obtain ⟨x0, cs0, g1, g2, g3⟩ := key 0 (by omega)
      have g0 : ∃ u, w.cell? ((a.add (0 * n)).add 0) = some u := ⟨cs0[0]'(by omega), by rw [g2 0 hn0]; simp⟩
      obtain ⟨u0, g0⟩ := g0
      have hspot : a.spot = none := by simpa [Addr.add] using World.cell?_spot g0
      have hlt := World.block_lt_of_cell? w _ g0
      obtain ⟨b, o, sp⟩ := a
      subst hspot
      simp only [add_plain] at key hlt
      obtain ⟨l, hll, hvs⟩ := repL_of (pd := pd) (n := n) (b := b) (F := Btw 0 w.heap.size) (w := w) len o (fun i hi' => by
        obtain ⟨x, cs', k1, k2, k3⟩ := key i hi'
        obtain ⟨q, hq⟩ := hpd x
        refine ⟨x, cs', k1, ?_, fun j u hj => ?_, k3⟩
        · rw [hq] at k3
          exact (repAgg.1 k3).2
        · rw [k2 j (by have := (List.getElem?_eq_some_iff.1 hj).1; omega)]
          exact hj)
      refine ⟨l, _, e5, ?_⟩
      unfold Rep
      rw [List.length_map]
      exact ⟨_, cap, by rw [hll], by omega, by rw [hll]; exact hlenB, by rw [hll]; exact hlenS, .inr ⟨b, o, ⟨Nat.zero_le _, by simpa using hlt⟩, rfl, hvs⟩⟩
end
section
variable {H : Type} {enc : TypeId × Value → H} {w : World}
set_option maxRecDepth 100000
set_option maxHeartbeats 2000000
end
end Go.Proofs.YtgmahieoiifpfaaGreat
end
section
namespace Go.Proofs.YtgmahieoiifpfaaGreat
open Go.ChangeShapes Go.WideShapes Go.ChangeAt Go.RowKit
section
variable {H : Type} {enc : TypeId × Value → H} {w : World}
set_option maxRecDepth 100000
set_option maxHeartbeats 2000000
theorem openLV (fuel : Nat) {cs : List Value} {d : DataW H} {ps : List MemPlace} (h : DataW.trod enc Tryz.prog w 0 (fun _ => true) true fuel 23 cs = some (d, ps)) (hw : ∀ k ∈ d.weights Tryz.prog 23, k ≤ reachBytes) : ∃ (l : List GV) (v : Value), cs = [v] ∧ Rep w (Btw 0 w.heap.size) (.sl 6 88 (pdVs l)) v := by
  obtain ⟨s, v, e, r⟩ := slice_of_trod pdV (fun x => ⟨_, pdV_eq x⟩) Tryz.underlying23 Tryz.cellsVal (by omega) Tryz.bytesVal (by omega) h hw (fun f' cs' d' ps' hlt h' hw' => by
    obtain ⟨x, c0, c1, c2, c3, c4, c5, e, hx⟩ := isV_of_trod f' h' hw'
    subst e
    exact ⟨x, isV_rep x hx⟩)
  exact ⟨s, v, e, by rw [pdVs_eq]; exact r⟩
end
end Go.Proofs.YtgmahieoiifpfaaGreat
end
section
namespace Go.Proofs.YtgmahieoiifpfaaGreat
open Go.ChangeShapes Go.WideShapes Go.ChangeAt Go.RowKit
theorem Tryz.bytesElem : Tryz.prog.bytesOf 29 = 168 := by kernel_rfl
section
variable {H : Type} {enc : TypeId × Value → H} {w : World}
set_option maxRecDepth 100000
set_option maxHeartbeats 2000000
theorem pdE_agg (x : EV) : ∃ l, pdE x = .agg l := ⟨_, rfl⟩
theorem openLE (fuel : Nat) {cs : List Value} {d : DataW H} {ps : List MemPlace} (h : DataW.trod enc Tryz.prog w 0 (fun _ => true) true fuel 22 cs = some (d, ps)) (hw : ∀ k ∈ d.weights Tryz.prog 22, k ≤ reachBytes) : ∃ (l : List EV) (v : Value), cs = [v] ∧ Rep w (Btw 0 w.heap.size) (.sl 11 168 (l.map pdE)) v :=
  slice_of_trod pdE pdE_agg Tryz.underlying22 Tryz.cellsElem (by omega) Tryz.bytesElem (by omega) h hw (fun f' cs' d' ps' hlt h' hw' => by
    obtain ⟨x, hx⟩ := isE_of_trod f' h' hw'
    exact ⟨x, isE_rep hx⟩)
end
end Go.Proofs.YtgmahieoiifpfaaGreat
end
section
namespace Go.Proofs.YtgmahieoiifpfaaGreat
open Go
theorem andB {a b : Bool} (h : a = true) (h' : b = true) : (a && b) = true := by rw [h, h']; rfl
theorem joined_of {P : Program} {f : FuncId} {fn : Func} {s : ChangeSpec} {c : OpenClaim}
    (h0 : (c.wf (OpenSpec.ofChange s) : Bool) = true)
    (h1 : (laidOutB P : Bool) = true)
    (h2 : (mapsRowed P : Bool) = true)
    (h3 : (fn.params.all (P.readableRec ·) : Bool) = true)
    (h4 : (namedTie P c.named s.vars : Bool) = true)
    (h5 : ((c.stops == []) : Bool) = true)
    (h6 : ((P.stops == []) : Bool) = true)
    (h7 : ((c.knobs == []) : Bool) = true)
    (h8 : ((P.stopKnobs == []) : Bool) = true)
    (h9 : ((c.inPlace == P.inPlace f) : Bool) = true)
    (h10 : ((c.unfollowed == P.unfollowed f) : Bool) = true)
    (h11 : ((c.recurses == P.recurses f) : Bool) = true)
    (h12 : ((c.named == P.varsNamed f) : Bool) = true)
    (h13 : ((c.maps == (fn.params.toList ++ s.plain.varTypes P).any (P.mapsRec ·)) : Bool) = true)
    (h14 : ((c.ifaces == (fn.params.toList ++ s.plain.varTypes P).any (P.ifacesRec ·)) : Bool) = true)
    (h15 : ((c.mapsOut == P.mapsAmong fn.resultTypes.toList) : Bool) = true)
    (h16 : ((c.loops == (fn.params.toList ++ s.plain.varTypes P).any (P.loopsFrom ·)) : Bool) = true)
    (h17 : ((c.wideKeys == (fn.params.toList ++ s.plain.varTypes P ++ fn.resultTypes.toList).any (P.wideKeysFrom ·)) : Bool) = true)
    (h18 : (s.vars.all (P.varReadable ·) : Bool) = true)
    (h19 : (fn.resultTypes.all (fun t => P.readableRec t && decide (t < P.types.size)) : Bool) = true)
    (h20 : ((c.ifacesOut == fn.resultTypes.toList.any (P.ifacesRec ·)) : Bool) = true)
    (h21 : ((c.loopsOut == fn.resultTypes.toList.any (P.loopsFrom ·)) : Bool) = true)
    (h22 : ((c.plainKeys == P.plainKeys) : Bool) = true)
    (h23 : (c.shortTexts.isNone : Bool) = true)
    (h24 : (P.stopsHeard : Bool) = true)
    (h25 : (P.mayEnter : Bool) = true)
    (h26 : ((c.lifted == P.liftsFinal) : Bool) = true)
    (h27 : ((P.make == some c.make) : Bool) = true)
    (h28 : ((c.kinds == (if c.domain.isEmpty then [] else fn.params.toList.map fun t => match P.underlying t with | some (.int k) => some k | _ => none)) : Bool) = true)
    (h29 : ((c.pinned == c.pinnedBy) : Bool) = true)
    (h30 : ((c.veiled == (fn.params.toList ++ s.plain.varTypes P ++ fn.resultTypes.toList).any (P.veiledRec ·)) : Bool) = true)
    (h31 : (c.veiledFits P fn.params.toList (fn.params.toList ++ s.plain.varTypes P ++ fn.resultTypes.toList) : Bool) = true)
    : joinedFacts P f fn s c = true := by
  unfold joinedFacts
  exact andB (andB (andB (andB (andB (andB (andB (andB (andB (andB (andB (andB (andB (andB (andB (andB (andB (andB (andB (andB (andB (andB (andB (andB (andB (andB (andB (andB (andB (andB (andB h0 h1) h2) h3) h4) h5) h6) h7) h8) h9) h10) h11) h12) h13) h14) h15) h16) h17) h18) h19) h20) h21) h22) h23) h24) h25) h26) h27) h28) h29) h30) h31
end Go.Proofs.YtgmahieoiifpfaaGreat
end
