/- Part 7 of what the proof rests on. -/
import Derived.Test.YtgmahieoiifpfaaGreatSmR4
import Derived.Test.YtgmahieoiifpfaaGreatSmR5
import Derived.Test.YtgmahieoiifpfaaGreatSmR6
section
set_option linter.unusedVariables false
namespace Go.Proofs.YtgmahieoiifpfaaGreat
open Go.RowKit
set_option linter.unusedSimpArgs false
/-- The blocks that the round writes. -/
def cTb (p q : List (ByteArray × JV)) (i : AV) (c : AV) : List (Nat × Blk) :=
  [(1000, .box 3 [i]), (1001, .box 3 [.dat (.val (.int .i64 (p.length : Int)))]), (1002, .box 3 [c]), (1003, .box 3 [.dat (.val (.int .i64 (q.length : Int)))]), (1004, .box 204 [.dat dvA])]
def cClo : AV := .clo 262 [.ptr 1000 0, .ptr 1001 0, .ptr 1002 0, .ptr 1003 0, .ptr 1004 0]
theorem take_mid {A B R : List ByteArray} {x : ByteArray} {i : Nat} (h : A.length + B.length = i) : (A ++ x :: (B ++ R)).take (i + 1) = A ++ x :: B := by
  rw [show A ++ x :: (B ++ R) = (A ++ x :: B) ++ R by simp]
  rw [List.take_left' (by simp; omega)]
theorem valD_nil (o : Option JV) : NilIs true (valD o) (!o.isSome) := by
  cases o with
  | none => exact NilIs.nilI
  | some j => exact NilIs.ifc
set_option maxHeartbeats 16000000 in
theorem lex_c (f : JV → JV → Int) (p q : List (ByteArray × JV)) (K : List ByteArray) (hpq : p ≠ [] ∨ q ≠ []) (hp : (p.map (·.1)).Nodup) (hq : (q.map (·.1)).Nodup) (hl : (p.length + q.length) * 16 ≤ 140737488351232) (hK : Incr K) (hKm : ∀ k, k ∈ K ↔ k ∈ p.map (·.1) ∨ k ∈ q.map (·.1))
    (hE : ∀ k x y, lkJ p k = some x → lkJ q k = some y → PCall Tryz.prog 237 [dvA, dvV x, dvV y] (.val (.int .i64 (f x y)))) :
    ACall1 Tryz.prog 338 [.dat dvA, .dat (dvM p), .dat (dvM q), cClo] (cTb p q (.dat (.val (.int .i64 0))) (.dat (.val (.int .i64 0)))) (.dat (.val (.bool (decide (cmpKs f p q 0 K = 0))))) (cTb p q .any (.dat (.val (.int .i64 (cmpKs f p q 0 K))))) := by
  have hI1 := iter1_c p [] hp (by simp; omega)
  refine acall_of_run Tryz.func338 rfl Tryz.ntmps338 rfl (fun X => ?_)
  obtain ⟨cap, hcap⟩ : ∃ cap, cap = if p.length < q.length then q.length else p.length := ⟨_, rfl⟩
  have hc1 : cap * 16 ≤ 140737488351232 := by rw [hcap]; split <;> omega
  have hc2 : cap ≤ 140737488351232 := by omega
  repeat' (first
    | (show Run _ _ _ _ (Itm.code (Code.cond (Operand.tmp 31) _ _) :: _) _; refine run_hold ?_)
    | refine run_seq ?_
    | (refine k_pick rfl ?_; first | refine k_assignD rfl rfl ?_ | refine k_moveD rfl rfl ?_ | refine k_loadBD rfl rfl rfl (by first | rfl | (simp only [cellsD]; rfl)) ?_ | refine k_bin2B rfl rfl rfl rfl ?_ | refine k_boxW rfl rfl rfl (by first | rfl | (simp only [cellsD]; rfl)) ?_ | refine k_invS rfl rfl (by kernel_rfl) rfl (by first | exact lenM_p _) ?_ | refine k_cmpNil rfl rfl rfl (by kernel_rfl) (by exact NilIs.ifc) rfl ?_)
    | refine run_opsEnd ?_
    | refine run_region ?_
    | refine run_condT rfl (by first | rfl | assumption) ?_
    | fail)
  refine ⟨?_⟩
  refine run_stage (mkSta [(0, .dat dvA), (2, .dat (dvM q)), (3, cClo), (5, .ptr 5 0), (9, .dat (.val (.int .i64 (p.length : Int)))), (10, .dat (.val (.int .i64 (q.length : Int)))), (11, .dat (.val (.int .i64 (cap : Int))))]
    ((5, .box 321 [.dat (dvM p)]) :: cTb p q (.dat (.val (.int .i64 0))) (.dat (.val (.int .i64 0))))) ?_ ?_
  · by_cases hgt : p.length < q.length
    · have g : decide ((p.length : Int) < (q.length : Int)) = true := decide_eq_true (by omega)
      rw [if_pos hgt] at hcap
      subst hcap
      repeat' (first
    | (refine k_pick rfl ?_; first | refine k_assignD rfl rfl ?_ | refine k_moveD rfl rfl ?_)
    | refine run_opsEnd ?_
    | refine run_region ?_
    | refine run_condT rfl (by first | rfl | assumption) ?_
    | fail)
      refine run_stageEnd id ?_
      (refine ⟨?_, ?_, by rfl⟩ <;> repeat' (first | exact trivial | exact ALe.ptr rfl | exact ALe.own rfl | exact ALe.elt rfl | exact BLe.boxD _ _ | exact BLe.row rfl | exact BLe.res | exact BLe.dead rfl | exact ALe.dat (PLe.refl _) | exact CLe.nil | refine And.intro ?_ ?_ | refine ALe.iface ?_ | refine ALe.clo ?_ | refine CLe.cons ?_ ?_ | refine BLe.box ?_ | refine BLe.row ?_ | exact ALe.any _ | refine ALe.dat (PLe.of_eq ?_)))
    · have g : decide ((p.length : Int) < (q.length : Int)) = false := decide_eq_false (by omega)
      rw [if_neg hgt] at hcap
      subst hcap
      repeat' (first
    | refine run_condF rfl (by first | rfl | assumption) ?_
    | refine run_skip ?_
    | fail)
      refine run_stageEnd id ?_
      (refine ⟨?_, ?_, by rfl⟩ <;> repeat' (first | exact trivial | exact ALe.ptr rfl | exact ALe.own rfl | exact ALe.elt rfl | exact BLe.boxD _ _ | exact BLe.row rfl | exact BLe.res | exact BLe.dead rfl | exact ALe.dat (PLe.refl _) | exact CLe.nil | refine And.intro ?_ ?_ | refine ALe.iface ?_ | refine ALe.clo ?_ | refine CLe.cons ?_ ?_ | refine BLe.box ?_ | refine BLe.row ?_ | exact ALe.any _ | refine ALe.dat (PLe.of_eq ?_)))
  clear hcap
  repeat' (first
    | (show Run _ _ _ _ (Itm.code (Code.region 10 _ _) :: _) _; refine run_hold ?_)
    | refine run_seq ?_
    | fail)
  refine ⟨?_⟩
  refine run_stage (mkSta [(0, .dat dvA), (2, .dat (dvM q)), (3, cClo), (5, .ptr 5 0), (11, .dat (.val (.int .i64 (cap : Int)))), (38, .dat (.val (.bool false)))]
    ((5, .box 321 [.dat (dvM p)]) :: cTb p q (.dat (.val (.int .i64 0))) (.dat (.val (.int .i64 0))))) ?_ ?_
  · by_cases h1 : p.length = 0
    · have g1 : decide ((p.length : Int) = 0) = true := decide_eq_true (by omega)
      have h2 : q.length ≠ 0 := fun h2 => hpq.elim (fun h => h (List.eq_nil_of_length_eq_zero h1)) (fun h => h (List.eq_nil_of_length_eq_zero h2))
      have g2 : decide ((q.length : Int) = 0) = false := decide_eq_false (by omega)
      repeat' (first
    | (refine k_pick rfl ?_; first | refine k_moveD rfl rfl ?_ | refine k_bin2B rfl rfl rfl rfl ?_ | refine k_pickT rfl rfl (by first | rfl | assumption) rfl ?_)
    | refine run_opsEnd ?_
    | refine run_region ?_
    | (refine k_guardY rfl rfl (by first | rfl | assumption) ?_; first | refine k_moveD rfl rfl ?_ | refine k_bin2B rfl rfl rfl rfl ?_)
    | fail)
      refine run_stageEnd id ?_
      (refine ⟨?_, ?_, by rfl⟩ <;> repeat' (first | exact trivial | exact ALe.ptr rfl | exact ALe.own rfl | exact ALe.elt rfl | exact BLe.boxD _ _ | exact BLe.row rfl | exact BLe.res | exact BLe.dead rfl | exact ALe.dat (PLe.refl _) | exact CLe.nil | refine And.intro ?_ ?_ | refine ALe.iface ?_ | refine ALe.clo ?_ | refine CLe.cons ?_ ?_ | refine BLe.box ?_ | refine BLe.row ?_ | exact ALe.any _ | refine ALe.dat (PLe.of_eq ?_)))
      all_goals (rw [g2])
    · have g1 : decide ((p.length : Int) = 0) = false := decide_eq_false (by omega)
      repeat' (first
    | (refine k_pick rfl ?_; first | refine k_moveD rfl rfl ?_ | refine k_bin2B rfl rfl rfl rfl ?_ | refine k_pickF rfl rfl (by first | rfl | assumption) rfl ?_)
    | refine run_opsEnd ?_
    | refine run_region ?_
    | refine k_guardNT rfl rfl (by first | rfl | assumption) rfl ?_
    | fail)
      refine run_stageEnd id ?_
      (refine ⟨?_, ?_, by rfl⟩ <;> repeat' (first | exact trivial | exact ALe.ptr rfl | exact ALe.own rfl | exact ALe.elt rfl | exact BLe.boxD _ _ | exact BLe.row rfl | exact BLe.res | exact BLe.dead rfl | exact ALe.dat (PLe.refl _) | exact CLe.nil | refine And.intro ?_ ?_ | refine ALe.iface ?_ | refine ALe.clo ?_ | refine CLe.cons ?_ ?_ | refine BLe.box ?_ | refine BLe.row ?_ | exact ALe.any _ | refine ALe.dat (PLe.of_eq ?_)))
  repeat' (first
    | refine run_seq ?_
    | (refine k_pick rfl ?_; first | refine k_makeSlice rfl rfl rfl rfl (by kernel_rfl) hc1 hc2 ?_ | refine k_moveD rfl rfl ?_ | refine k_loadBD rfl rfl rfl (by first | rfl | (simp only [cellsD]; rfl)) ?_ | refine k_storeB rfl rfl rfl rfl rfl ?_ | refine k_alloc rfl rfl ?_ | refine k_makeFunc rfl ?_ | refine k_cmpNil rfl rfl rfl (by kernel_rfl) (by exact NilIs.ifc) rfl ?_)
    | refine run_opsEnd ?_
    | refine run_region ?_
    | refine run_condT rfl (by first | rfl | assumption) ?_
    | refine run_condF rfl (by first | rfl | assumption) ?_
    | refine run_skip ?_
    | fail)
  refine k_pick rfl (k_invAS (thk [(1000, _), (1001, _)] 200) rfl rfl (by kernel_rfl) hI1 rfl ⟨rfl, rfl, trivial⟩ rfl (fun _ => freshB_ok rfl) (fun _ => rfl) (fun q1 => ?_))
  have hq1l : q1.1.length = p.length := by have := q1.2.length_eq; simpa using this
  have hI2 := iter2_c p q ([] ++ q1.1) hq (by simp [hq1l]; omega)
  repeat' (first
    | refine run_seq ?_
    | (refine k_pick rfl ?_; first | refine k_moveD rfl rfl ?_ | refine k_makeFunc rfl ?_ | refine k_cmpNil rfl rfl rfl (by kernel_rfl) (by exact NilIs.ifc) rfl ?_)
    | refine run_opsEnd ?_
    | refine run_region ?_
    | refine run_condT rfl (by first | rfl | assumption) ?_
    | fail)
  refine k_pick rfl (k_invAS (thk [(1000, _), (1001, _), (1002, _)] 350) rfl rfl (by kernel_rfl) hI2 rfl ⟨rfl, rfl, rfl, trivial⟩ rfl (fun _ => freshB_ok rfl) (fun _ => rfl) (fun q2 => ?_))
  obtain ⟨L0, hL0⟩ : ∃ L0, L0 = [] ++ q1.1 ++ q2.1 := ⟨_, rfl⟩
  have hmem : ∀ k, k ∈ L0 ↔ k ∈ K := by
    intro k
    rw [hL0, hKm, List.nil_append, List.mem_append, q1.2.mem_iff, q2.2.mem_iff, List.mem_filter]
    constructor
    · rintro (h | h)
      · exact .inl h
      · exact .inr h.1
    · rintro (h | h)
      · exact .inl h
      · by_cases hk : k ∈ p.map (·.1)
        · exact .inl hk
        · refine .inr ⟨h, ?_⟩
          rw [lkJ_getA, getA_none (fun e he hek => hk (by rw [← hek]; exact List.mem_map_of_mem (f := (·.1)) he))]
          rfl
  have hnd0 : L0.Nodup := by
    rw [hL0, List.nil_append, List.nodup_append]
    refine ⟨q1.2.nodup_iff.2 hp, q2.2.nodup_iff.2 (hq.filter _), fun a ha b hb e => ?_⟩
    subst e
    have h1 := q1.2.mem_iff.1 ha
    have h2 := (List.mem_filter.1 (q2.2.mem_iff.1 hb)).2
    obtain ⟨y, hy, rfl⟩ := List.mem_map.1 h1
    rw [lkJ_getA, getA_of_mem hp (show (y.1, y.2) ∈ p from hy)] at h2
    cases h2
  have hne0 : 1 ≤ L0.length := by
    have : ∃ k, k ∈ K := by
      rcases hpq with h | h
      · cases p with
        | nil => exact absurd rfl h
        | cons y r => exact ⟨y.1, (hKm _).2 (.inl (by simp))⟩
      · cases q with
        | nil => exact absurd rfl h
        | cons y r => exact ⟨y.1, (hKm _).2 (.inr (by simp))⟩
    obtain ⟨k, hk⟩ := this
    exact List.length_pos_of_mem ((hmem k).2 hk)
  have hlen0 : L0.length ≤ 140737488351232 := by
    have h2 := q2.2.length_eq
    have h3 := List.length_filter_le (fun k => !(lkJ p k).isSome) (q.map (·.1))
    simp at h2 h3
    rw [hL0]; simp [hq1l]; omega
  repeat' (first
    | refine run_seq ?_
    | (refine k_pick rfl ?_; refine k_assignD rfl rfl ?_)
    | refine run_opsEnd ?_
    | refine run_region ?_
    | refine run_block ?_
    | fail)
  refine run_loopS (ι := { x : List ByteArray × Nat // x.1.Perm L0 ∧ 1 ≤ x.2 ∧ x.2 ≤ x.1.length ∧ Incr (x.1.take x.2) })
    (fun x => [(0, .dat dvA), (2, .dat (dvM q)), (3, cClo), (5, .ptr 5 0), (12, .ptr 12 0), (13, .dat (.val (.int .i64 (x.1.2 : Nat))))])
    (fun x => [(5, .box 321 [.dat (dvM p)]), (12, .box 24 [.own 350]), (350, .row 9 1 16 (pdS x.1.1))] ++ cTb p q (.dat (.val (.int .i64 0))) (.dat (.val (.int .i64 0))))
    (fun x => L0.length - x.1.2) ⟨(L0, 1), .refl _, Nat.le_refl _, hne0, by
      cases L0 with
      | nil => simp at hne0
      | cons x r => simp [Incr]⟩ id ?_ ?_
  · (refine ⟨?_, ?_, by rfl⟩ <;> repeat' (first | exact trivial | exact ALe.ptr rfl | exact ALe.own rfl | exact ALe.elt rfl | exact BLe.boxD _ _ | exact BLe.row rfl | exact BLe.res | exact BLe.dead rfl | exact ALe.dat (PLe.refl _) | exact CLe.nil | refine And.intro ?_ ?_ | refine ALe.iface ?_ | refine ALe.clo ?_ | refine CLe.cons ?_ ?_ | refine BLe.box ?_ | refine BLe.row ?_ | exact ALe.any _ | refine ALe.dat (PLe.of_eq ?_)))
    all_goals (first | (show pdS ([] ++ q1.1 ++ q2.1) = pdS L0; rw [hL0]) | rfl)
  rintro ⟨⟨L, i⟩, hperm, hi1, hi2, hinc⟩
  have hperm : L.Perm L0 := hperm
  have hi1 : 1 ≤ i := hi1
  have hi2 : i ≤ L.length := hi2
  have hinc : Incr (L.take i) := hinc
  have hLl : L.length = L0.length := hperm.length_eq
  have hps := pdS_len L
  by_cases hlt : i < L.length
  · have g : decide ((i : Int) < (((pdS L).length : Nat) : Int)) = true := by rw [hps]; simpa using hlt
    repeat' (first
    | refine run_seq ?_
    | (refine k_pick rfl ?_; first | refine k_assignD rfl rfl ?_ | refine k_moveD rfl rfl ?_ | refine k_bin2B rfl rfl rfl rfl ?_ | refine k_loadBO rfl rfl rfl rfl ?_ | refine k_lenO rfl rfl rfl ?_)
    | refine run_opsEnd ?_
    | refine run_region ?_
    | refine run_condT rfl (by first | rfl | assumption) ?_
    | refine run_block ?_
    | refine run_skip ?_
    | fail)
    refine run_loopS (ι := { x : List ByteArray × ByteArray × List ByteArray // (x.1 ++ x.2.1 :: (x.2.2 ++ L.drop (i + 1))).Perm L0 ∧ x.1.length + x.2.2.length = i ∧ Incr (x.1 ++ x.2.2) ∧ ∀ b ∈ x.2.2, blt x.2.1 b = true })
      (fun x => [(0, .dat dvA), (2, .dat (dvM q)), (3, cClo), (5, .ptr 5 0), (12, .ptr 12 0), (13, .dat (.val (.int .i64 (i : Nat)))), (14, .dat (.val (.int .i64 (x.1.1.length : Nat))))])
      (fun x => [(5, .box 321 [.dat (dvM p)]), (12, .box 24 [.own 350]), (350, .row 9 1 16 (pdS (x.1.1 ++ x.1.2.1 :: (x.1.2.2 ++ L.drop (i + 1)))))] ++ cTb p q (.dat (.val (.int .i64 0))) (.dat (.val (.int .i64 0))))
      (fun x => x.1.1.length) ⟨(L.take i, L[i], []), by simpa [List.take_append_drop] using hperm, by simp; omega, by simpa using hinc, by simp⟩ id ?_ ?_
    · (refine ⟨?_, ?_, by rfl⟩ <;> repeat' (first | exact trivial | exact ALe.ptr rfl | exact ALe.own rfl | exact ALe.elt rfl | exact BLe.boxD _ _ | exact BLe.row rfl | exact BLe.res | exact BLe.dead rfl | exact ALe.dat (PLe.refl _) | exact CLe.nil | refine And.intro ?_ ?_ | refine ALe.iface ?_ | refine ALe.clo ?_ | refine CLe.cons ?_ ?_ | refine BLe.box ?_ | refine BLe.row ?_ | exact ALe.any _ | refine ALe.dat (PLe.of_eq ?_)))
      all_goals (first | rfl | (simp [List.length_take]; done) | (simp [List.length_take]; omega))
    rintro ⟨⟨A, x, B⟩, hperm2, hab, hinc2, hB⟩
    have hperm2 : (A ++ x :: (B ++ L.drop (i + 1))).Perm L0 := hperm2
    have hab : A.length + B.length = i := hab
    have hinc2 : Incr (A ++ B) := hinc2
    have hB : ∀ b ∈ B, blt x b = true := hB
    have hll : (A ++ x :: (B ++ L.drop (i + 1))).length = L0.length := hperm2.length_eq
    generalize L.drop (i + 1) = R at *
    rcases List.eq_nil_or_concat A with rfl | ⟨A', y, rfl⟩
    · have g1 : decide ((0 : Int) < ((([] : List ByteArray).length : Nat) : Int)) = false := rfl
      repeat' (first
    | refine run_seq ?_
    | (refine k_pick rfl ?_; first | refine k_assignD rfl rfl ?_ | refine k_moveD rfl rfl ?_ | refine k_ariI rfl rfl rfl rfl (by first | omega | (dsimp only; omega)) ?_)
    | refine run_opsEnd ?_
    | refine run_region ?_
    | refine run_condF rfl (by first | rfl | assumption) ?_
    | refine run_blkEnd ?_
    | refine run_exit rfl ?_
    | refine run_drawC (by kernel_rfl) ?_
    | refine c_nil (And.intro (by kernel_rfl) ?_)
    | refine c_pick (d_moveD rfl rfl) ?_
    | refine c_pick (d_bin2B rfl rfl rfl rfl) ?_
    | refine c_pick (d_pickF rfl rfl (by first | rfl | assumption) rfl) ?_
    | refine c_passT rfl (by first | rfl | assumption) rfl ?_
    | fail)
      refine run_again ?_
      refine ⟨⟨([] ++ x :: (B ++ R), i + 1), hperm2, by omega, by rw [hll, ← hLl]; omega, ?_⟩, id, by show L0.length - (i + 1) < L0.length - i; omega, ?_⟩
      · show Incr (([] ++ x :: (B ++ R)).take (i + 1))
        rw [take_mid hab]
        exact incr_put hinc2 hB (fun y h => by simp at h)
      (refine ⟨?_, ?_, by rfl⟩ <;> repeat' (first | exact trivial | exact ALe.ptr rfl | exact ALe.own rfl | exact ALe.elt rfl | exact BLe.boxD _ _ | exact BLe.row rfl | exact BLe.res | exact BLe.dead rfl | exact ALe.dat (PLe.refl _) | exact CLe.nil | refine And.intro ?_ ?_ | refine ALe.iface ?_ | refine ALe.clo ?_ | refine CLe.cons ?_ ?_ | refine BLe.box ?_ | refine BLe.row ?_ | exact ALe.any _ | refine ALe.dat (PLe.of_eq ?_)))
    · simp only [List.concat_eq_append] at *
      have hal : (A' ++ [y]).length = A'.length + 1 := by simp
      have g1 : decide ((0 : Int) < (((A' ++ [y]).length : Nat) : Int)) = true := decide_eq_true (by omega)
      have z0 : (((A' ++ [y]).length : Nat) : Int) = (((A' ++ [y]).length : Nat) : Int) := rfl
      have z1 : (((A' ++ [y]).length : Nat) : Int) - 1 = ((A'.length : Nat) : Int) := by rw [hal]; omega
      have hx : (pdS (A' ++ [y] ++ x :: (B ++ R)))[(A' ++ [y]).length]? = some (.val (.string x)) := pdS_at (by rw [List.getElem?_append_right (Nat.le_refl _)]; simp)
      have hy : (pdS (A' ++ [y] ++ x :: (B ++ R)))[A'.length]? = some (.val (.string y)) := pdS_at (by simp)
      have l0 : (A' ++ [y]).length < (pdS (A' ++ [y] ++ x :: (B ++ R))).length := (List.getElem?_eq_some_iff.1 hx).1
      have l1 : A'.length < (pdS (A' ++ [y] ++ x :: (B ++ R))).length := (List.getElem?_eq_some_iff.1 hy).1
      cases hb : blt x y with
      | true =>
        have l2 : A'.length < ((pdS (A' ++ [y] ++ x :: (B ++ R))).set (A' ++ [y]).length (.val (.string y))).length := by rw [List.length_set]; exact l1
        have hsw : ((pdS (A' ++ [y] ++ x :: (B ++ R))).set (A' ++ [y]).length (.val (.string y))).set A'.length (.val (.string x)) = pdS (A' ++ x :: (y :: B ++ R)) := by
          rw [hal, show A' ++ [y] ++ x :: (B ++ R) = A' ++ y :: x :: (B ++ R) by simp, swap_eq]
          simp
        repeat' (first
    | refine run_seq ?_
    | (refine k_pick rfl ?_; first | refine k_assignD rfl rfl ?_ | refine k_moveD rfl rfl ?_ | refine k_ariI rfl rfl rfl rfl (by first | omega | (dsimp only; omega)) ?_)
    | refine run_opsEnd ?_
    | refine run_region ?_
    | refine run_condT rfl (by first | rfl | assumption) ?_
    | refine run_block ?_
    | refine run_blkEnd ?_
    | refine run_skip ?_
    | refine run_drawC (by kernel_rfl) ?_
    | refine c_nil (And.intro (by kernel_rfl) ?_)
    | refine c_pick (d_indexZ rfl rfl rfl rfl (by assumption) (by assumption)) ?_
    | refine c_pick (d_loadE rfl rfl rfl (by assumption)) ?_
    | refine c_pick (d_storeE rfl rfl (by assumption) rfl) ?_
    | refine c_pick (d_moveD rfl rfl) ?_
    | refine c_pick (d_bin2B rfl rfl rfl rfl) ?_
    | refine c_pick (d_pickT rfl rfl (by first | rfl | assumption) rfl) ?_
    | refine c_pick (d_ariI rfl rfl rfl rfl (by first | omega | (dsimp only; omega))) ?_
    | refine c_pick (d_loadBO rfl rfl rfl rfl) ?_
    | refine c_pickY rfl (by first | rfl | assumption) (d_indexZ rfl rfl rfl rfl (by assumption) (by assumption)) ?_
    | refine c_pickY rfl (by first | rfl | assumption) (d_loadE rfl rfl rfl (by assumption)) ?_
    | refine c_pickY rfl (by first | rfl | assumption) (d_moveD rfl rfl) ?_
    | refine c_pickY rfl (by first | rfl | assumption) (d_bin2B rfl rfl rfl rfl) ?_
    | refine c_pickY rfl (by first | rfl | assumption) (d_ariI rfl rfl rfl rfl (by first | omega | (dsimp only; omega))) ?_
    | refine c_pickY rfl (by first | rfl | assumption) (d_loadBO rfl rfl rfl rfl) ?_
    | fail)
        refine run_again ?_
        refine ⟨⟨(A', x, y :: B), ?_, by simp at hab ⊢; omega, by simpa using hinc2, ?_⟩, id, by show A'.length < (A' ++ [y]).length; omega, ?_⟩
        · refine List.Perm.trans ?_ hperm2
          show (A' ++ x :: (y :: B ++ R)).Perm (A' ++ [y] ++ x :: (B ++ R))
          rw [show A' ++ [y] ++ x :: (B ++ R) = A' ++ (y :: x :: (B ++ R)) by simp, show A' ++ x :: (y :: B ++ R) = A' ++ (x :: y :: (B ++ R)) by simp]
          exact (List.Perm.swap y x _).append_left A'
        · intro b hb'
          rcases List.mem_cons.1 hb' with rfl | hb'
          · exact hb
          · exact hB b hb'
        (refine ⟨?_, ?_, by rfl⟩ <;> repeat' (first | exact trivial | exact ALe.ptr rfl | exact ALe.own rfl | exact ALe.elt rfl | exact BLe.boxD _ _ | exact BLe.row rfl | exact BLe.res | exact BLe.dead rfl | exact ALe.dat (PLe.refl _) | exact CLe.nil | refine And.intro ?_ ?_ | refine ALe.iface ?_ | refine ALe.clo ?_ | refine CLe.cons ?_ ?_ | refine BLe.box ?_ | refine BLe.row ?_ | exact ALe.any _ | refine ALe.dat (PLe.of_eq ?_)))
        all_goals first | exact congrArg _ (congrArg _ z1) | exact hsw | rw [z1] | rw [hsw]
      | false =>
        repeat' (first
    | refine run_seq ?_
    | (refine k_pick rfl ?_; first | refine k_assignD rfl rfl ?_ | refine k_moveD rfl rfl ?_ | refine k_ariI rfl rfl rfl rfl (by first | omega | (dsimp only; omega)) ?_)
    | refine run_opsEnd ?_
    | refine run_region ?_
    | refine run_condF rfl (by first | rfl | assumption) ?_
    | refine run_blkEnd ?_
    | refine run_exit rfl ?_
    | refine run_drawC (by kernel_rfl) ?_
    | refine c_nil (And.intro (by kernel_rfl) ?_)
    | refine c_pick (d_moveD rfl rfl) ?_
    | refine c_pick (d_bin2B rfl rfl rfl rfl) ?_
    | refine c_pick (d_pickT rfl rfl (by first | rfl | assumption) rfl) ?_
    | refine c_pickY rfl (by first | rfl | assumption) (d_indexZ rfl rfl rfl rfl (by assumption) (by assumption)) ?_
    | refine c_pickY rfl (by first | rfl | assumption) (d_loadE rfl rfl rfl (by assumption)) ?_
    | refine c_pickY rfl (by first | rfl | assumption) (d_moveD rfl rfl) ?_
    | refine c_pickY rfl (by first | rfl | assumption) (d_bin2B rfl rfl rfl rfl) ?_
    | refine c_pickY rfl (by first | rfl | assumption) (d_ariI rfl rfl rfl rfl (by first | omega | (dsimp only; omega))) ?_
    | refine c_pickY rfl (by first | rfl | assumption) (d_loadBO rfl rfl rfl rfl) ?_
    | fail)
        refine run_again ?_
        refine ⟨⟨(A' ++ [y] ++ x :: (B ++ R), i + 1), hperm2, by omega, by rw [hll, ← hLl]; omega, ?_⟩, id, by show L0.length - (i + 1) < L0.length - i; omega, ?_⟩
        · show Incr ((A' ++ [y] ++ x :: (B ++ R)).take (i + 1))
          rw [take_mid hab]
          refine incr_put hinc2 hB (fun z hz => ?_)
          simp at hz
          subst hz
          cases hbb : blt y x with
          | true => rfl
          | false =>
            have := blt_total hb hbb
            subst this
            have hnd2 : (A' ++ [x] ++ x :: (B ++ R)).Nodup := hperm2.nodup_iff.2 hnd0
            simp [List.nodup_append] at hnd2
        (refine ⟨?_, ?_, by rfl⟩ <;> repeat' (first | exact trivial | exact ALe.ptr rfl | exact ALe.own rfl | exact ALe.elt rfl | exact BLe.boxD _ _ | exact BLe.row rfl | exact BLe.res | exact BLe.dead rfl | exact ALe.dat (PLe.refl _) | exact CLe.nil | refine And.intro ?_ ?_ | refine ALe.iface ?_ | refine ALe.clo ?_ | refine CLe.cons ?_ ?_ | refine BLe.box ?_ | refine BLe.row ?_ | exact ALe.any _ | refine ALe.dat (PLe.of_eq ?_)))
  have g : decide ((i : Int) < (((pdS L).length : Nat) : Int)) = false := by rw [hps]; simpa using hlt
  have hLK : L = K := incr_ext (by rw [List.take_of_length_le (by omega)] at hinc; exact hinc) hK (fun k => (hperm.mem_iff).trans (hmem k))
  subst hLK
  obtain ⟨C, hC0⟩ : ∃ C, C = cmpKs f p q 0 L := ⟨_, rfl⟩
  rw [← hC0]
  repeat' (first
    | refine run_seq ?_
    | (refine k_pick rfl ?_; first | refine k_moveD rfl rfl ?_ | refine k_bin2B rfl rfl rfl rfl ?_ | refine k_loadBO rfl rfl rfl rfl ?_ | refine k_lenO rfl rfl rfl ?_)
    | refine run_opsEnd ?_
    | refine run_region ?_
    | refine run_condF rfl (by first | rfl | assumption) ?_
    | refine run_block ?_
    | refine run_exit rfl ?_
    | fail)
  refine run_loopS (ι := { j : Nat // j ≤ L.length ∧ C = cmpKs f p q j (L.drop j) })
    (fun j => [(0, .dat dvA), (2, .dat (dvM q)), (3, cClo), (5, .ptr 5 0), (92, .own 350), (93, .dat (.val (.int .i64 ((pdS L).length : Nat)))), (94, .dat (.val (.int .i64 (j.1 : Nat))))])
    (fun j => [(5, .box 321 [.dat (dvM p)]), (350, .row 9 1 16 (pdS L))] ++ cTb p q (.dat (.val (.int .i64 (j.1 : Nat)))) (.dat (.val (.int .i64 0))))
    (fun j => L.length - j.1) ⟨0, Nat.zero_le _, hC0⟩ id ?_ ?_
  · (refine ⟨?_, ?_, by rfl⟩ <;> repeat' (first | exact trivial | exact ALe.ptr rfl | exact ALe.own rfl | exact ALe.elt rfl | exact BLe.boxD _ _ | exact BLe.row rfl | exact BLe.res | exact BLe.dead rfl | exact ALe.dat (PLe.refl _) | exact CLe.nil | refine And.intro ?_ ?_ | refine ALe.iface ?_ | refine ALe.clo ?_ | refine CLe.cons ?_ ?_ | refine BLe.box ?_ | refine BLe.row ?_ | exact ALe.any _ | refine ALe.dat (PLe.of_eq ?_)))
  rintro ⟨j, hj, hcj⟩
  by_cases hjl : j < L.length
  · have g2 : decide ((j : Int) < (((pdS L).length : Nat) : Int)) = true := by rw [hps]; simpa using hjl
    obtain ⟨k, hk⟩ : ∃ k, L[j]? = some k := ⟨_, List.getElem?_eq_getElem hjl⟩
    have i1 : (pdS L)[j]? = some (.val (.string k)) := pdS_at hk
    have i2 : j < (pdS L).length := by rw [hps]; exact hjl
    have z0 : ((j : Nat) : Int) = ((j : Nat) : Int) := rfl
    have hC := cloC_c f p q j k (by omega) (hE k)
    have hg1 := get_p p k
    have hg2 := get_p q k
    have hd : L.drop j = k :: L.drop (j + 1) := by
      rw [List.drop_eq_getElem_cons hjl]
      rw [List.getElem?_eq_getElem hjl] at hk
      rw [Option.some.inj hk]
    rw [hd] at hcj
    simp only [cmpKs] at hcj
    generalize stepC f p q j k = c at *
    have hn1 := valD_nil (lkJ p k)
    have hn2 := valD_nil (lkJ q k)
    generalize lkJ p k = o1 at *
    generalize lkJ q k = o2 at *
    by_cases hc : c = 0
    · have g3 : (!decide (c = 0)) = false := by simp [hc]
      rw [if_pos hc] at hcj
      repeat' (first
    | refine run_seq ?_
    | (refine k_pick rfl ?_; first | refine k_indexZ rfl rfl rfl rfl (by assumption) (by assumption) ?_ | refine k_loadE rfl rfl rfl (by assumption) ?_ | refine k_assignD rfl rfl ?_ | refine k_moveD rfl rfl ?_ | refine k_loadBD rfl rfl rfl (by first | rfl | (simp only [cellsD]; rfl)) ?_ | refine k_bin2B rfl rfl rfl rfl ?_ | refine k_extract rfl rfl rfl ?_ | refine k_cmpNil rfl rfl rfl (by kernel_rfl) (by first | exact NilIs.ptr | exact NilIs.none | exact NilIs.nilI | assumption) rfl ?_ | refine k_not rfl rfl ?_ | refine k_ariI rfl rfl rfl rfl (by first | omega | (dsimp only; omega)) ?_ | refine k_cloA1 (thk [(1000, _), (1001, _), (1002, _), (1003, _), (1004, _)] 200) rfl rfl (by kernel_rfl) (hC) rfl ⟨rfl, ⟨rfl, ⟨rfl, ⟨rfl, ⟨rfl, trivial⟩⟩⟩⟩⟩ rfl (freshB_ok rfl) rfl ?_ | refine k_invS rfl rfl (by kernel_rfl) rfl (by first | exact hg1 | exact hg2 | exact free_p _) ?_ | refine k_moveC rfl rfl ?_ | refine k_cmpNil rfl rfl rfl (by kernel_rfl) (by exact NilIs.ifc) rfl ?_)
    | refine run_opsEnd ?_
    | refine run_region ?_
    | refine run_condT rfl (by first | rfl | assumption) ?_
    | refine run_condF rfl (by first | rfl | assumption) ?_
    | refine run_cond rfl (fun h => ?_) (fun h => ?_)
    | refine run_block ?_
    | refine run_blkEnd ?_
    | refine run_skip ?_
    | fail)
      all_goals
        refine run_again ?_
        refine ⟨⟨j + 1, by omega, hcj⟩, id, by simp only; omega, ?_⟩
        (refine ⟨?_, ?_, by rfl⟩ <;> repeat' (first | exact trivial | exact ALe.ptr rfl | exact ALe.own rfl | exact ALe.elt rfl | exact BLe.boxD _ _ | exact BLe.row rfl | exact BLe.res | exact BLe.dead rfl | exact ALe.dat (PLe.refl _) | exact CLe.nil | refine And.intro ?_ ?_ | refine ALe.iface ?_ | refine ALe.clo ?_ | refine CLe.cons ?_ ?_ | refine BLe.box ?_ | refine BLe.row ?_ | exact ALe.any _ | refine ALe.dat (PLe.of_eq ?_)))
        all_goals (first | rfl | (rw [hc]) | simp)
    · have g3 : (!decide (c = 0)) = true := by simp [hc]
      rw [if_neg hc] at hcj
      subst hcj
      repeat' (first
    | refine run_seq ?_
    | (refine k_pick rfl ?_; first | refine k_indexZ rfl rfl rfl rfl (by assumption) (by assumption) ?_ | refine k_loadE rfl rfl rfl (by assumption) ?_ | refine k_assignD rfl rfl ?_ | refine k_moveD rfl rfl ?_ | refine k_loadBD rfl rfl rfl (by first | rfl | (simp only [cellsD]; rfl)) ?_ | refine k_bin2B rfl rfl rfl rfl ?_ | refine k_extract rfl rfl rfl ?_ | refine k_cmpNil rfl rfl rfl (by kernel_rfl) (by first | exact NilIs.ptr | exact NilIs.none | exact NilIs.nilI | assumption) rfl ?_ | refine k_not rfl rfl ?_ | refine k_cloA1 (thk [(1000, _), (1001, _), (1002, _), (1003, _), (1004, _)] 200) rfl rfl (by kernel_rfl) (hC) rfl ⟨rfl, ⟨rfl, ⟨rfl, ⟨rfl, ⟨rfl, trivial⟩⟩⟩⟩⟩ rfl (freshB_ok rfl) rfl ?_ | refine k_invS rfl rfl (by kernel_rfl) rfl (by first | exact hg1 | exact hg2 | exact free_p _) ?_ | refine k_moveC rfl rfl ?_ | refine k_cmpNil rfl rfl rfl (by kernel_rfl) (by exact NilIs.ifc) rfl ?_)
    | refine run_opsEnd ?_
    | refine run_region ?_
    | refine run_condT rfl (by first | rfl | assumption) ?_
    | refine run_cond rfl (fun h => ?_) (fun h => ?_)
    | refine run_block ?_
    | refine run_skip ?_
    | fail)
      all_goals
        refine run_retA () id (tm := [(8, .dat (.val (.bool (decide (C = 0)))))]) ?_ (resA_tmp rfl rfl)
        (refine ⟨?_, ?_, by rfl⟩ <;> repeat' (first | exact trivial | exact ALe.ptr rfl | exact ALe.own rfl | exact ALe.elt rfl | exact BLe.boxD _ _ | exact BLe.row rfl | exact BLe.res | exact BLe.dead rfl | exact ALe.dat (PLe.refl _) | exact CLe.nil | refine And.intro ?_ ?_ | refine ALe.iface ?_ | refine ALe.clo ?_ | refine CLe.cons ?_ ?_ | refine BLe.box ?_ | refine BLe.row ?_ | exact ALe.any _ | refine ALe.dat (PLe.of_eq ?_)))
        all_goals (rw [show decide (C = 0) = false from decide_eq_false hc])
  · have g2 : decide ((j : Int) < (((pdS L).length : Nat) : Int)) = false := by rw [hps]; simpa using hjl
    have e : C = 0 := by rw [hcj, List.drop_eq_nil_of_le (by omega)]; rfl
    subst e
    repeat' (first
    | refine run_seq ?_
    | (refine k_pick rfl ?_; first | refine k_assignD rfl rfl ?_ | refine k_bin2B rfl rfl rfl rfl ?_)
    | refine run_opsEnd ?_
    | refine run_region ?_
    | refine run_condF rfl (by first | rfl | assumption) ?_
    | refine run_exit rfl ?_
    | fail)
    refine run_retA () id (tm := [(8, .dat (.val (.bool true)))]) ?_ (resA_tmp rfl rfl)
    (refine ⟨?_, ?_, by rfl⟩ <;> repeat' (first | exact trivial | exact ALe.ptr rfl | exact ALe.own rfl | exact ALe.elt rfl | exact BLe.boxD _ _ | exact BLe.row rfl | exact BLe.res | exact BLe.dead rfl | exact ALe.dat (PLe.refl _) | exact CLe.nil | refine And.intro ?_ ?_ | refine ALe.iface ?_ | refine ALe.clo ?_ | refine CLe.cons ?_ ?_ | refine BLe.box ?_ | refine BLe.row ?_ | exact ALe.any _ | refine ALe.dat (PLe.of_eq ?_)))
end Go.Proofs.YtgmahieoiifpfaaGreat
end
section
set_option linter.unusedVariables false
namespace Go.Proofs.YtgmahieoiifpfaaGreat
open Go.RowKit
set_option linter.unusedSimpArgs false
theorem dvL_len {w : World} {F : Nat → Prop} {l1 l2 : List JV} {vs : List Value} (hvs : Reps w F [dvA, dvL l1, dvL l2] vs) : l1.length * 16 ≤ 140737488351232 ∧ l2.length * 16 ≤ 140737488351232 := by
  unfold Reps at hvs; obtain ⟨_, _, _, _, hvs⟩ := hvs
  unfold Reps at hvs; obtain ⟨_, _, _, hv1, hvs⟩ := hvs
  unfold Reps at hvs; obtain ⟨_, _, _, hv2, _⟩ := hvs
  unfold dvL Rep at hv1 hv2
  obtain ⟨_, _, hv1⟩ := hv1
  obtain ⟨_, _, hv2⟩ := hv2
  exact ⟨dvLs_len hv1, dvLs_len hv2⟩
set_option maxHeartbeats 8000000 in
theorem lstCmp_p (f : JV → JV → Int) (l1 l2 : List JV) (hE : ∀ x ∈ l1, ∀ y ∈ l2, PCall Tryz.prog 237 [dvA, dvV x, dvV y] (.val (.int .i64 (f x y)))) : PCall Tryz.prog 251 [dvA, dvL l1, dvL l2] (.val (.int .i64 (cmpLs f l1 l2))) := by
  refine PCall.ex fun w F vs hvs => ?_
  obtain ⟨hlen1, hlen2⟩ := dvL_len hvs
  clear hvs vs F w
  refine pcall_of_run Tryz.func251 rfl Tryz.ntmps251 rfl (fun X => ?_)
  by_cases hn : l1 = []
  · subst hn
    by_cases hn2 : l2 = []
    · subst hn2
      repeat' (first
    | refine run_seq ?_
    | (refine k_pick rfl ?_; first | refine k_assignD rfl rfl ?_ | refine k_moveD rfl rfl ?_ | refine k_invS rfl rfl (by kernel_rfl) rfl (by first | exact rangeNil_p) ?_ | refine k_nilI rfl rfl ?_ | refine k_deferA rfl free_idle ?_)
    | refine run_opsEnd ?_
    | refine run_region ?_
    | refine run_block ?_
    | fail)
      refine run_loopS (ι := Unit) (fun _ => [(7, .dat dvE), (8, .dat dvE)]) (fun _ => []) (fun _ => 0) () id ?_ (fun _ => ?_)
      · (refine ⟨?_, ?_, by rfl⟩ <;> repeat' (first | exact trivial | exact ALe.ptr rfl | exact ALe.own rfl | exact ALe.elt rfl | exact BLe.boxD _ _ | exact BLe.row rfl | exact BLe.res | exact BLe.dead rfl | exact ALe.dat (PLe.refl _) | exact CLe.nil | refine And.intro ?_ ?_ | refine ALe.iface ?_ | refine ALe.clo ?_ | refine CLe.cons ?_ ?_ | refine BLe.box ?_ | refine BLe.row ?_ | exact ALe.any _ | refine ALe.dat (PLe.of_eq ?_)))
      repeat' (first
    | refine run_seq ?_
    | (refine k_pick rfl ?_; first | refine k_assignD rfl rfl ?_ | refine k_moveD rfl rfl ?_ | refine k_pickT rfl rfl (by first | rfl | assumption) rfl ?_ | refine k_not rfl rfl ?_ | refine k_invS rfl rfl (by kernel_rfl) rfl (by first | exact emptyNext_p) ?_)
    | refine run_opsEnd ?_
    | refine run_region ?_
    | refine run_condT rfl (by first | rfl | assumption) ?_
    | (refine k_guardY rfl rfl (by first | rfl | assumption) ?_; first | refine k_moveD rfl rfl ?_ | refine k_not rfl rfl ?_)
    | refine run_block ?_
    | refine run_retOk (resOk_tmp rfl rfl ?_)
    | fail)
      all_goals exact PLe.refl _
    · have e : cmpLs f [] l2 = -1 := by
        cases l2 with
        | nil => exact absurd rfl hn2
        | cons y q => rfl
      have hq2 : decide (((0 : Nat) : Int) < (l2.length : Int)) = true := by
        cases l2 with
        | nil => exact absurd rfl hn2
        | cons y q => first | (simp; done) | (simp; omega)
      have hq2n : (!decide (((0 : Nat) : Int) < (l2.length : Int))) = false := by rw [hq2]; rfl
      rw [e]
      repeat' (first
    | refine run_seq ?_
    | (refine k_pick rfl ?_; first | refine k_assignD rfl rfl ?_ | refine k_moveD rfl rfl ?_ | refine k_invAS1 (thk [] 200) rfl rfl (by kernel_rfl) (rangeCons_c _ hn2) rfl trivial rfl (freshB_ok rfl) rfl ?_ | refine k_invS rfl rfl (by kernel_rfl) rfl (by first | exact rangeNil_p) ?_ | refine k_nilI rfl rfl ?_ | refine k_assignI rfl rfl ?_ | refine k_moveI rfl rfl ?_ | refine k_deferA rfl free_idle ?_)
    | refine run_opsEnd ?_
    | refine run_region ?_
    | refine run_block ?_
    | fail)
      refine run_loopS (ι := Unit) (fun _ => [(7, .dat dvE), (8, .iface 421 (.ptr 350 0))])
        (fun _ => [(350, .box 427 [.dat (dvLs l2), .ptr 351 0, .dat (.val (.int .i64 (((0 : Nat) : Int) - 1)))]), (351, .box 315 [.any])]) (fun _ => 0) () (thk [(350, 200), (351, 201)] 0) ?_ (fun _ => ?_)
      · (refine ⟨?_, ?_, by rfl⟩ <;> repeat' (first | exact trivial | exact ALe.ptr rfl | exact ALe.own rfl | exact ALe.elt rfl | exact BLe.boxD _ _ | exact BLe.row rfl | exact BLe.res | exact BLe.dead rfl | exact ALe.dat (PLe.refl _) | exact CLe.nil | refine And.intro ?_ ?_ | refine ALe.iface ?_ | refine ALe.clo ?_ | refine CLe.cons ?_ ?_ | refine BLe.box ?_ | refine BLe.row ?_ | exact ALe.any _ | refine ALe.dat (PLe.of_eq ?_)))
      repeat' (first
    | refine run_seq ?_
    | (refine k_pick rfl ?_; first | refine k_assignD rfl rfl ?_ | refine k_moveD rfl rfl ?_ | refine k_pickT rfl rfl (by first | rfl | assumption) rfl ?_ | refine k_not rfl rfl ?_ | refine k_invAS1 (thk [(1000, _), (1001, _)] 200) rfl rfl (by kernel_rfl) (next_c l2 0 (by omega)) rfl ⟨rfl, ⟨rfl, trivial⟩⟩ rfl (freshB_ok rfl) rfl ?_ | refine k_invS rfl rfl (by kernel_rfl) rfl (by first | exact emptyNext_p) ?_ | refine k_moveI rfl rfl ?_)
    | refine run_opsEnd ?_
    | refine run_region ?_
    | refine run_condT rfl (by first | rfl | assumption) ?_
    | refine run_condF rfl (by first | rfl | assumption) ?_
    | (refine k_guardY rfl rfl (by first | rfl | assumption) ?_; first | refine k_moveD rfl rfl ?_ | refine k_not rfl rfl ?_)
    | refine run_block ?_
    | refine run_skip ?_
    | refine run_retOk (resOk_tmp rfl rfl ?_)
    | fail)
      all_goals exact PLe.refl _
  · by_cases hn2 : l2 = []
    · subst hn2
      have e : cmpLs f l1 [] = 1 := by
        cases l1 with
        | nil => exact absurd rfl hn
        | cons y q => rfl
      have hq1 : decide (((0 : Nat) : Int) < (l1.length : Int)) = true := by
        cases l1 with
        | nil => exact absurd rfl hn
        | cons y q => first | (simp; done) | (simp; omega)
      have hq1n : (!decide (((0 : Nat) : Int) < (l1.length : Int))) = false := by rw [hq1]; rfl
      rw [e]
      repeat' (first
    | refine run_seq ?_
    | (refine k_pick rfl ?_; first | refine k_assignD rfl rfl ?_ | refine k_moveD rfl rfl ?_ | refine k_invAS1 (thk [] 200) rfl rfl (by kernel_rfl) (rangeCons_c _ hn) rfl trivial rfl (freshB_ok rfl) rfl ?_ | refine k_invS rfl rfl (by kernel_rfl) rfl (by first | exact rangeNil_p) ?_ | refine k_nilI rfl rfl ?_ | refine k_assignI rfl rfl ?_ | refine k_moveI rfl rfl ?_ | refine k_deferA rfl free_idle ?_)
    | refine run_opsEnd ?_
    | refine run_region ?_
    | refine run_block ?_
    | fail)
      refine run_loopS (ι := Unit) (fun _ => [(7, .iface 421 (.ptr 200 0)), (8, .dat dvE)])
        (fun _ => [(200, .box 427 [.dat (dvLs l1), .ptr 201 0, .dat (.val (.int .i64 (((0 : Nat) : Int) - 1)))]), (201, .box 315 [.any])]) (fun _ => 0) () id ?_ (fun _ => ?_)
      · (refine ⟨?_, ?_, by rfl⟩ <;> repeat' (first | exact trivial | exact ALe.ptr rfl | exact ALe.own rfl | exact ALe.elt rfl | exact BLe.boxD _ _ | exact BLe.row rfl | exact BLe.res | exact BLe.dead rfl | exact ALe.dat (PLe.refl _) | exact CLe.nil | refine And.intro ?_ ?_ | refine ALe.iface ?_ | refine ALe.clo ?_ | refine CLe.cons ?_ ?_ | refine BLe.box ?_ | refine BLe.row ?_ | exact ALe.any _ | refine ALe.dat (PLe.of_eq ?_)))
      repeat' (first
    | refine run_seq ?_
    | (refine k_pick rfl ?_; first | refine k_assignD rfl rfl ?_ | refine k_moveD rfl rfl ?_ | refine k_pickF rfl rfl (by first | rfl | assumption) rfl ?_ | refine k_not rfl rfl ?_ | refine k_invAS1 (thk [(1000, _), (1001, _)] 200) rfl rfl (by kernel_rfl) (next_c l1 0 (by omega)) rfl ⟨rfl, ⟨rfl, trivial⟩⟩ rfl (freshB_ok rfl) rfl ?_ | refine k_invS rfl rfl (by kernel_rfl) rfl (by first | exact emptyNext_p) ?_ | refine k_moveI rfl rfl ?_)
    | refine run_opsEnd ?_
    | refine run_region ?_
    | refine run_condT rfl (by first | rfl | assumption) ?_
    | refine run_condF rfl (by first | rfl | assumption) ?_
    | refine k_guardNT rfl rfl (by first | rfl | assumption) rfl ?_
    | refine run_block ?_
    | refine run_skip ?_
    | refine run_retOk (resOk_tmp rfl rfl ?_)
    | fail)
      all_goals exact PLe.refl _
    · repeat' (first
    | refine run_seq ?_
    | (refine k_pick rfl ?_; first | refine k_assignD rfl rfl ?_ | refine k_moveD rfl rfl ?_ | refine k_invAS1 (thk [] 200) rfl rfl (by kernel_rfl) (rangeCons_c _ hn) rfl trivial rfl (freshB_ok rfl) rfl ?_ | refine k_invAS1 (thk [] 350) rfl rfl (by kernel_rfl) (rangeCons_c _ hn2) rfl trivial rfl (freshB_ok rfl) rfl ?_ | refine k_nilI rfl rfl ?_ | refine k_assignI rfl rfl ?_ | refine k_moveI rfl rfl ?_ | refine k_deferA rfl free_idle ?_)
    | refine run_opsEnd ?_
    | refine run_region ?_
    | refine run_block ?_
    | fail)
      refine run_loopS (ι := { k : Nat // (k ≤ l1.length ∧ k ≤ l2.length) ∧ ∀ i x y, i < k → l1[i]? = some x → l2[i]? = some y → f x y = 0 })
        (fun k => [(0, .dat dvA), (7, .iface 421 (.ptr 200 0)), (8, .iface 421 (.ptr 350 0))])
        (fun k => [(200, .box 427 [.dat (dvLs l1), .ptr 201 0, .dat (.val (.int .i64 ((k.1 : Nat) - 1 : Int)))]), (201, .box 315 [.any]),
          (350, .box 427 [.dat (dvLs l2), .ptr 351 0, .dat (.val (.int .i64 ((k.1 : Nat) - 1 : Int)))]), (351, .box 315 [.any])])
        (fun k => l1.length - k.1) ⟨0, ⟨Nat.zero_le _, Nat.zero_le _⟩, fun i _ _ h => absurd h (Nat.not_lt_zero i)⟩ id ?_ ?_
      · (refine ⟨?_, ?_, by rfl⟩ <;> repeat' (first | exact trivial | exact ALe.ptr rfl | exact ALe.own rfl | exact ALe.elt rfl | exact BLe.boxD _ _ | exact BLe.row rfl | exact BLe.res | exact BLe.dead rfl | exact ALe.dat (PLe.refl _) | exact CLe.nil | refine And.intro ?_ ?_ | refine ALe.iface ?_ | refine ALe.clo ?_ | refine CLe.cons ?_ ?_ | refine BLe.box ?_ | refine BLe.row ?_ | exact ALe.any _ | refine ALe.dat (PLe.of_eq ?_)))
      rintro ⟨k, ⟨hk, hk2⟩, hall⟩
      have hend : k = l1.length ∨ k = l2.length → cmpLs f l1 l2 = if l1.length < l2.length then -1 else if l2.length < l1.length then 1 else 0 := fun h => cmpLs_end (fun j u v hu hv => hall j u v (by
        have := (List.getElem?_eq_some_iff.1 hu).1
        have := (List.getElem?_eq_some_iff.1 hv).1
        omega) hu hv)
      by_cases hlt : k < l1.length
      · have hq1 : decide ((k : Int) < (l1.length : Int)) = true := by simpa using hlt
        have hq1n : (!decide ((k : Int) < (l1.length : Int))) = false := by rw [hq1]; rfl
        by_cases hlt2 : k < l2.length
        · have hq2 : decide ((k : Int) < (l2.length : Int)) = true := by simpa using hlt2
          have hq2n : (!decide ((k : Int) < (l2.length : Int))) = false := by rw [hq2]; rfl
          obtain ⟨x, hx⟩ : ∃ x, l1[k]? = some x := ⟨_, List.getElem?_eq_getElem hlt⟩
          obtain ⟨y, hy⟩ : ∃ y, l2[k]? = some y := ⟨_, List.getElem?_eq_getElem hlt2⟩
          have hC := hE x (List.mem_of_getElem? hx) y (List.mem_of_getElem? hy)
          by_cases hr : f x y = 0
          · have hq3 : decide (f x y ≠ 0) = false := by simpa using hr
            repeat' (first
    | refine run_seq ?_
    | (refine k_pick rfl ?_; first | refine k_assignD rfl rfl ?_ | refine k_moveD rfl rfl ?_ | refine k_bin2B rfl rfl rfl rfl ?_ | refine k_pickF rfl rfl (by first | rfl | assumption) rfl ?_ | refine k_not rfl rfl ?_ | refine k_invAS1 (thk [(1000, _), (1001, _)] 200) rfl rfl (by kernel_rfl) (next_c l1 k (by omega)) rfl ⟨rfl, ⟨rfl, trivial⟩⟩ rfl (freshB_ok rfl) rfl ?_ | refine k_invAS1 (thk [(1000, _), (1001, _)] 200) rfl rfl (by kernel_rfl) (next_c l2 k (by omega)) rfl ⟨rfl, ⟨rfl, trivial⟩⟩ rfl (freshB_ok rfl) rfl ?_ | refine k_invAS1 (thk [(1000, _), (1001, _)] 200) rfl rfl (by kernel_rfl) (item_c l1 k x hx) rfl ⟨rfl, ⟨rfl, trivial⟩⟩ rfl (freshB_ok rfl) rfl ?_ | refine k_invAS1 (thk [(1000, _), (1001, _)] 200) rfl rfl (by kernel_rfl) (item_c l2 k y hy) rfl ⟨rfl, ⟨rfl, trivial⟩⟩ rfl (freshB_ok rfl) rfl ?_ | refine k_assignI rfl rfl ?_ | refine k_moveI rfl rfl ?_ | refine k_moveT rfl rfl ?_ | refine k_extractI rfl rfl rfl ?_ | refine k_extractD rfl rfl rfl ?_ | refine k_callZ gV rfl (by kernel_rfl) rfl (by first | exact hC) Flat.val ?_)
    | refine run_opsEnd ?_
    | refine run_region ?_
    | refine run_condF rfl (by first | rfl | assumption) ?_
    | refine k_guardNT rfl rfl (by first | rfl | assumption) rfl ?_
    | refine run_block ?_
    | refine run_blkEnd ?_
    | refine run_skip ?_
    | fail)
            refine run_again ?_
            refine ⟨⟨k + 1, ⟨by omega, by omega⟩, ?_⟩, id, by simp only; omega, ?_⟩
            · intro i x' y' hi hx' hy'
              by_cases e : i = k
              · subst e
                rw [hx] at hx'; rw [hy] at hy'
                cases hx'; cases hy'
                exact hr
              · exact hall i x' y' (by omega) hx' hy'
            (refine ⟨?_, ?_, by rfl⟩ <;> repeat' (first | exact trivial | exact ALe.ptr rfl | exact ALe.own rfl | exact ALe.elt rfl | exact BLe.boxD _ _ | exact BLe.row rfl | exact BLe.res | exact BLe.dead rfl | exact ALe.dat (PLe.refl _) | exact CLe.nil | refine And.intro ?_ ?_ | refine ALe.iface ?_ | refine ALe.clo ?_ | refine CLe.cons ?_ ?_ | refine BLe.box ?_ | refine BLe.row ?_ | exact ALe.any _ | refine ALe.dat (PLe.of_eq ?_)))
            all_goals (rw [show (((k + 1 : Nat) : Int) - 1) = k by omega])
          · have hq3 : decide (f x y ≠ 0) = true := by simpa using hr
            rw [cmpLs_ne (fun j u v hj hu hv => hall j u v hj hu hv) hx hy hr]
            repeat' (first
    | refine run_seq ?_
    | (refine k_pick rfl ?_; first | refine k_assignD rfl rfl ?_ | refine k_moveD rfl rfl ?_ | refine k_bin2B rfl rfl rfl rfl ?_ | refine k_pickF rfl rfl (by first | rfl | assumption) rfl ?_ | refine k_not rfl rfl ?_ | refine k_invAS1 (thk [(1000, _), (1001, _)] 200) rfl rfl (by kernel_rfl) (next_c l1 k (by omega)) rfl ⟨rfl, ⟨rfl, trivial⟩⟩ rfl (freshB_ok rfl) rfl ?_ | refine k_invAS1 (thk [(1000, _), (1001, _)] 200) rfl rfl (by kernel_rfl) (next_c l2 k (by omega)) rfl ⟨rfl, ⟨rfl, trivial⟩⟩ rfl (freshB_ok rfl) rfl ?_ | refine k_invAS1 (thk [(1000, _), (1001, _)] 200) rfl rfl (by kernel_rfl) (item_c l1 k x hx) rfl ⟨rfl, ⟨rfl, trivial⟩⟩ rfl (freshB_ok rfl) rfl ?_ | refine k_invAS1 (thk [(1000, _), (1001, _)] 200) rfl rfl (by kernel_rfl) (item_c l2 k y hy) rfl ⟨rfl, ⟨rfl, trivial⟩⟩ rfl (freshB_ok rfl) rfl ?_ | refine k_assignI rfl rfl ?_ | refine k_moveI rfl rfl ?_ | refine k_moveT rfl rfl ?_ | refine k_extractI rfl rfl rfl ?_ | refine k_extractD rfl rfl rfl ?_ | refine k_callZ gV rfl (by kernel_rfl) rfl (by first | exact hC) Flat.val ?_)
    | refine run_opsEnd ?_
    | refine run_region ?_
    | refine run_condT rfl (by first | rfl | assumption) ?_
    | refine run_condF rfl (by first | rfl | assumption) ?_
    | refine k_guardNT rfl rfl (by first | rfl | assumption) rfl ?_
    | refine run_block ?_
    | refine run_skip ?_
    | refine run_retOk (resOk_tmp rfl rfl ?_)
    | fail)
            all_goals exact PLe.refl _
        · have hq2 : decide ((k : Int) < (l2.length : Int)) = false := by simpa using hlt2
          have hq2n : (!decide ((k : Int) < (l2.length : Int))) = true := by rw [hq2]; rfl
          rw [hend (.inr (by omega)), if_neg (by omega), if_pos (by omega)]
          repeat' (first
    | refine run_seq ?_
    | (refine k_pick rfl ?_; first | refine k_assignD rfl rfl ?_ | refine k_moveD rfl rfl ?_ | refine k_pickF rfl rfl (by first | rfl | assumption) rfl ?_ | refine k_not rfl rfl ?_ | refine k_invAS1 (thk [(1000, _), (1001, _)] 200) rfl rfl (by kernel_rfl) (next_c l1 k (by omega)) rfl ⟨rfl, ⟨rfl, trivial⟩⟩ rfl (freshB_ok rfl) rfl ?_ | refine k_invAS1 (thk [(1000, _), (1001, _)] 200) rfl rfl (by kernel_rfl) (next_c l2 k (by omega)) rfl ⟨rfl, ⟨rfl, trivial⟩⟩ rfl (freshB_ok rfl) rfl ?_ | refine k_moveI rfl rfl ?_)
    | refine run_opsEnd ?_
    | refine run_region ?_
    | refine run_condT rfl (by first | rfl | assumption) ?_
    | refine run_condF rfl (by first | rfl | assumption) ?_
    | refine k_guardNT rfl rfl (by first | rfl | assumption) rfl ?_
    | refine run_block ?_
    | refine run_skip ?_
    | refine run_retOk (resOk_tmp rfl rfl ?_)
    | fail)
          all_goals exact PLe.refl _
      · have hq1 : decide ((k : Int) < (l1.length : Int)) = false := by simpa using hlt
        have hq1n : (!decide ((k : Int) < (l1.length : Int))) = true := by rw [hq1]; rfl
        by_cases hlt2 : k < l2.length
        · have hq2 : decide ((k : Int) < (l2.length : Int)) = true := by simpa using hlt2
          have hq2n : (!decide ((k : Int) < (l2.length : Int))) = false := by rw [hq2]; rfl
          rw [hend (.inl (by omega)), if_pos (by omega)]
          repeat' (first
    | refine run_seq ?_
    | (refine k_pick rfl ?_; first | refine k_assignD rfl rfl ?_ | refine k_moveD rfl rfl ?_ | refine k_pickT rfl rfl (by first | rfl | assumption) rfl ?_ | refine k_not rfl rfl ?_ | refine k_invAS1 (thk [(1000, _), (1001, _)] 200) rfl rfl (by kernel_rfl) (next_c l1 k (by omega)) rfl ⟨rfl, ⟨rfl, trivial⟩⟩ rfl (freshB_ok rfl) rfl ?_ | refine k_invAS1 (thk [(1000, _), (1001, _)] 200) rfl rfl (by kernel_rfl) (next_c l2 k (by omega)) rfl ⟨rfl, ⟨rfl, trivial⟩⟩ rfl (freshB_ok rfl) rfl ?_ | refine k_moveI rfl rfl ?_)
    | refine run_opsEnd ?_
    | refine run_region ?_
    | refine run_condT rfl (by first | rfl | assumption) ?_
    | refine run_condF rfl (by first | rfl | assumption) ?_
    | (refine k_guardY rfl rfl (by first | rfl | assumption) ?_; first | refine k_moveD rfl rfl ?_ | refine k_not rfl rfl ?_)
    | refine run_block ?_
    | refine run_skip ?_
    | refine run_retOk (resOk_tmp rfl rfl ?_)
    | fail)
          all_goals exact PLe.refl _
        · have hq2 : decide ((k : Int) < (l2.length : Int)) = false := by simpa using hlt2
          have hq2n : (!decide ((k : Int) < (l2.length : Int))) = true := by rw [hq2]; rfl
          rw [hend (.inl (by omega)), if_neg (by omega), if_neg (by omega)]
          repeat' (first
    | refine run_seq ?_
    | (refine k_pick rfl ?_; first | refine k_assignD rfl rfl ?_ | refine k_moveD rfl rfl ?_ | refine k_pickT rfl rfl (by first | rfl | assumption) rfl ?_ | refine k_not rfl rfl ?_ | refine k_invAS1 (thk [(1000, _), (1001, _)] 200) rfl rfl (by kernel_rfl) (next_c l1 k (by omega)) rfl ⟨rfl, ⟨rfl, trivial⟩⟩ rfl (freshB_ok rfl) rfl ?_ | refine k_invAS1 (thk [(1000, _), (1001, _)] 200) rfl rfl (by kernel_rfl) (next_c l2 k (by omega)) rfl ⟨rfl, ⟨rfl, trivial⟩⟩ rfl (freshB_ok rfl) rfl ?_ | refine k_moveI rfl rfl ?_)
    | refine run_opsEnd ?_
    | refine run_region ?_
    | refine run_condT rfl (by first | rfl | assumption) ?_
    | (refine k_guardY rfl rfl (by first | rfl | assumption) ?_; first | refine k_moveD rfl rfl ?_ | refine k_not rfl rfl ?_)
    | refine run_block ?_
    | refine run_retOk (resOk_tmp rfl rfl ?_)
    | fail)
          all_goals exact PLe.refl _
end Go.Proofs.YtgmahieoiifpfaaGreat
end
section
set_option linter.unusedVariables false
namespace Go.Proofs.YtgmahieoiifpfaaGreat
open Go.RowKit
set_option linter.unusedSimpArgs false
/-- A key put into a list of keys in increasing order. -/
def insK (k : ByteArray) : List ByteArray → List ByteArray
  | [] => [k]
  | x :: r => if blt k x = true then k :: x :: r else if blt x k = true then x :: insK k r else x :: r
theorem mem_insK {k z : ByteArray} : ∀ {l : List ByteArray}, z ∈ insK k l ↔ z = k ∨ z ∈ l
  | [] => by simp [insK]
  | x :: r => by
    unfold insK
    split
    · simp
    · rename_i h1
      split
      · simp only [List.mem_cons, mem_insK (l := r)]
        constructor
        · rintro (h | h | h) <;> simp [h]
        · rintro (h | h | h) <;> simp [h]
      · rename_i h2
        have : k = x := blt_total (by simpa using h1) (by simpa using h2)
        subst this
        simp
theorem incr_insK {k : ByteArray} : ∀ {l : List ByteArray}, Incr l → Incr (insK k l)
  | [], _ => by simp [insK, Incr]
  | x :: r, h => by
    unfold Incr at h
    rw [List.pairwise_cons] at h
    unfold insK
    split
    · rename_i h1
      exact List.pairwise_cons.2 ⟨fun b hb => by
        rcases List.mem_cons.1 hb with rfl | hb
        · exact h1
        · exact blt_trans h1 (h.1 b hb), List.pairwise_cons.2 h⟩
    · split
      · rename_i h2
        refine List.pairwise_cons.2 ⟨fun b hb => ?_, incr_insK h.2⟩
        rcases mem_insK.1 hb with rfl | hb
        · exact h2
        · exact h.1 b hb
      · exact List.pairwise_cons.2 h
/-- The keys of two maps, in increasing order, each once. -/
def unionK (p q : List (ByteArray × JV)) : List ByteArray := (p.map (·.1) ++ q.map (·.1)).foldr insK []
theorem unionK_incr (p q : List (ByteArray × JV)) : Incr (unionK p q) := by
  unfold unionK
  induction p.map (·.1) ++ q.map (·.1) with
  | nil => simp [Incr]
  | cons x r ih => exact incr_insK ih
theorem unionK_mem (p q : List (ByteArray × JV)) (k : ByteArray) : k ∈ unionK p q ↔ k ∈ p.map (·.1) ∨ k ∈ q.map (·.1) := by
  unfold unionK
  rw [← List.mem_append]
  induction p.map (·.1) ++ q.map (·.1) with
  | nil => simp
  | cons x r ih => rw [List.foldr_cons, mem_insK, ih, List.mem_cons]
/-- Maps compare by their first fields. -/
def cmpMs (f : JV → JV → Int) (p q : List (ByteArray × JV)) : Int := if p.length = 0 ∧ q.length = 0 then 0 else cmpKs f p q 0 (unionK p q)
/-- The kinds' order. -/
def rankJ : JV → Nat
  | .int _ => 0 | .flt _ => 0 | .str _ => 1 | .bool _ => 2 | .list _ => 3 | .map _ => 4 | .null => 5
/-- A step where the other map's values come with what compares with them. -/
def stepT (a : List (ByteArray × JV)) (n : Nat) (T : List (ByteArray × (JV → Int))) (i : Nat) (k : ByteArray) : Int :=
  if i = a.length then -1 else if i = n then 1 else match lkJ a k, getA T k with
    | none, _ => 1
    | some _, none => -1
    | some x, some g => g x
def cmpKsT (a : List (ByteArray × JV)) (n : Nat) (T : List (ByteArray × (JV → Int))) : Nat → List ByteArray → Int
  | _, [] => 0
  | i, k :: r => if stepT a n T i k = 0 then cmpKsT a n T (i + 1) r else stepT a n T i k
mutual
/-- How two trees compare: as value.Compare has it. -/
def cmpJ : JV → JV → Int
  | .flt a, .flt b => cmpF a b
  | .flt a, .int n => cmpF a (floatOfInt .f64 n)
  | .int n, .flt b => cmpF (floatOfInt .f64 n) b
  | .int a, .int b => cmpI a b
  | .str a, .str b => cmpS a b
  | .bool a, .bool b => cmpBo a b
  | .list a, .list b => cmpJs a b
  | .map a, .map b => if a.length = 0 ∧ b.length = 0 then 0 else cmpKsT a b.length (cmpT b) 0 (unionK a b)
  | .null, .null => 0
  | j, k => if rankJ j < rankJ k then -1 else 1
termination_by _ k => SizeOf.sizeOf k
def cmpJs : List JV → List JV → Int
  | [], [] => 0
  | [], _ :: _ => -1
  | _ :: _, [] => 1
  | x :: r, y :: q => if cmpJ x y = 0 then cmpJs r q else cmpJ x y
termination_by _ k => SizeOf.sizeOf k
def cmpT : List (ByteArray × JV) → List (ByteArray × (JV → Int))
  | [] => []
  | y :: q => (y.1, fun x => cmpJ x y.2) :: cmpT q
termination_by k => SizeOf.sizeOf k
decreasing_by
  all_goals simp_wf
  · obtain ⟨y1, y2⟩ := y; simp; omega
  · omega
end
theorem cmpJs_eq : ∀ a b : List JV, cmpJs a b = cmpLs cmpJ a b
  | [], [] => by simp only [cmpJs, cmpLs]
  | [], _ :: _ => by simp only [cmpJs, cmpLs]
  | _ :: _, [] => by simp only [cmpJs, cmpLs]
  | x :: r, y :: q => by simp only [cmpJs, cmpLs]; rw [cmpJs_eq r q]
theorem cmpT_get : ∀ (b : List (ByteArray × JV)) (k : ByteArray), getA (cmpT b) k = (lkJ b k).map fun y x => cmpJ x y
  | [], k => by simp [cmpT, getA, lkJ]
  | y :: q, k => by
    unfold cmpT
    simp only [getA, lkJ]
    by_cases e : y.1 = k
    · rw [if_pos e, if_pos e]; rfl
    · rw [if_neg e, if_neg e, cmpT_get q k]
theorem stepT_eq (a b : List (ByteArray × JV)) (i : Nat) (k : ByteArray) : stepT a b.length (cmpT b) i k = stepC cmpJ a b i k := by
  unfold stepT stepC
  rw [cmpT_get]
  split
  · rfl
  · split
    · rfl
    · cases lkJ a k <;> cases lkJ b k <;> rfl
theorem cmpKsT_eq (a b : List (ByteArray × JV)) : ∀ (K : List ByteArray) (i : Nat), cmpKsT a b.length (cmpT b) i K = cmpKs cmpJ a b i K
  | [], i => rfl
  | k :: r, i => by simp only [cmpKsT, cmpKs]; rw [stepT_eq, cmpKsT_eq a b r]
theorem cmpJ_map (a b : List (ByteArray × JV)) : cmpJ (.map a) (.map b) = cmpMs cmpJ a b := by
  unfold cmpJ cmpMs
  rw [cmpKsT_eq]
theorem cmpJ_list (a b : List JV) : cmpJ (.list a) (.list b) = cmpLs cmpJ a b := by
  unfold cmpJ
  exact cmpJs_eq a b
end Go.Proofs.YtgmahieoiifpfaaGreat
end
section
set_option linter.unusedVariables false
namespace Go.Proofs.YtgmahieoiifpfaaGreat
open Go.RowKit
set_option linter.unusedSimpArgs false
section
variable {f : JV → JV → Int} {p q : List (ByteArray × JV)} {C : Int}
theorem dmz_c (h : ACall1 Tryz.prog 338 [.dat dvA, .dat (dvM p), .dat (dvM q), cClo] (cTb p q (.dat (.val (.int .i64 0))) (.dat (.val (.int .i64 0)))) (.dat (.val (.bool (decide (C = 0))))) (cTb p q .any (.dat (.val (.int .i64 C))))) :
    ACall1 Tryz.prog 336 [.dat dvA, .dat (dvM p), .dat (dvM q), .dat (.val (.int .i64 1)), cClo] (cTb p q (.dat (.val (.int .i64 0))) (.dat (.val (.int .i64 0)))) (.dat (.val (.bool (decide (C = 0))))) (cTb p q .any (.dat (.val (.int .i64 C)))) := by
  refine acall_of_run Tryz.func336 rfl Tryz.ntmps336 rfl (fun X => ?_)
  have g1 : decide ((1 : Int) = 0) = false := rfl
  have g2 : decide ((1 : Int) = 1) = true := rfl
  unfold cTb at h
  repeat' (first
    | refine run_seq ?_
    | (refine k_pick rfl ?_; first | refine k_assignD rfl rfl ?_ | refine k_moveD rfl rfl ?_ | refine k_bin2B rfl rfl rfl rfl ?_ | refine k_acall1 (thk [(1000, _), (1001, _), (1002, _), (1003, _), (1004, _)] 200) rfl (by kernel_rfl) (h) rfl ⟨rfl, ⟨rfl, ⟨rfl, ⟨rfl, ⟨rfl, trivial⟩⟩⟩⟩⟩ rfl (freshB_ok rfl) rfl ?_ | refine k_moveC rfl rfl ?_)
    | refine run_opsEnd ?_
    | refine run_region ?_
    | refine run_condT rfl (by first | rfl | assumption) ?_
    | refine run_condF rfl (by first | rfl | assumption) ?_
    | refine run_block ?_
    | fail)
  refine run_retA () id (tm := [(10, .dat (.val (.bool (decide (C = 0)))))]) ?_ (resA_tmp rfl rfl)
  (refine ⟨?_, ?_, by rfl⟩ <;> repeat' (first | exact trivial | exact ALe.ptr rfl | exact ALe.own rfl | exact ALe.elt rfl | exact BLe.boxD _ _ | exact BLe.row rfl | exact BLe.res | exact BLe.dead rfl | exact ALe.dat (PLe.refl _) | exact CLe.nil | refine And.intro ?_ ?_ | refine ALe.iface ?_ | refine ALe.clo ?_ | refine CLe.cons ?_ ?_ | refine BLe.box ?_ | refine BLe.row ?_ | exact ALe.any _ | refine ALe.dat (PLe.of_eq ?_)))
theorem zipU_c (h : ACall1 Tryz.prog 336 [.dat dvA, .dat (dvM p), .dat (dvM q), .dat (.val (.int .i64 1)), cClo] (cTb p q (.dat (.val (.int .i64 0))) (.dat (.val (.int .i64 0)))) (.dat (.val (.bool (decide (C = 0))))) (cTb p q .any (.dat (.val (.int .i64 C))))) :
    ACall1 Tryz.prog 334 [.dat (dvMm p), .dat dvA, .dat (dvM q), .dat (.val (.int .i64 1)), cClo] (cTb p q (.dat (.val (.int .i64 0))) (.dat (.val (.int .i64 0)))) (.dat (.val (.bool (decide (C = 0))))) (cTb p q .any (.dat (.val (.int .i64 C)))) := by
  refine acall_of_run Tryz.func334 rfl Tryz.ntmps334 rfl (fun X => ?_)
  unfold cTb at h
  repeat' (first
    | refine run_seq ?_
    | (refine k_pick rfl ?_; first | refine k_assignD rfl rfl ?_ | refine k_moveD rfl rfl ?_ | refine k_acall1 (thk [(1000, _), (1001, _), (1002, _), (1003, _), (1004, _)] 200) rfl (by kernel_rfl) (h) rfl ⟨rfl, ⟨rfl, ⟨rfl, ⟨rfl, ⟨rfl, trivial⟩⟩⟩⟩⟩ rfl (freshB_ok rfl) rfl ?_ | refine k_moveC rfl rfl ?_ | refine k_iface rfl rfl (by kernel_rfl) ?_)
    | refine run_opsEnd ?_
    | refine run_region ?_
    | fail)
  refine run_retA () id (tm := [(10, .dat (.val (.bool (decide (C = 0)))))]) ?_ (resA_tmp rfl rfl)
  (refine ⟨?_, ?_, by rfl⟩ <;> repeat' (first | exact trivial | exact ALe.ptr rfl | exact ALe.own rfl | exact ALe.elt rfl | exact BLe.boxD _ _ | exact BLe.row rfl | exact BLe.res | exact BLe.dead rfl | exact ALe.dat (PLe.refl _) | exact CLe.nil | refine And.intro ?_ ?_ | refine ALe.iface ?_ | refine ALe.clo ?_ | refine CLe.cons ?_ ?_ | refine BLe.box ?_ | refine BLe.row ?_ | exact ALe.any _ | refine ALe.dat (PLe.of_eq ?_)))
theorem mzU_c (h : ACall1 Tryz.prog 334 [.dat (dvMm p), .dat dvA, .dat (dvM q), .dat (.val (.int .i64 1)), cClo] (cTb p q (.dat (.val (.int .i64 0))) (.dat (.val (.int .i64 0)))) (.dat (.val (.bool (decide (C = 0))))) (cTb p q .any (.dat (.val (.int .i64 C))))) :
    ACall1 Tryz.prog 261 [.dat dvA, .dat (dvM p), .dat (dvM q), .dat (.val (.int .i64 1)), cClo] (cTb p q (.dat (.val (.int .i64 0))) (.dat (.val (.int .i64 0)))) (.dat (.val (.bool (decide (C = 0))))) (cTb p q .any (.dat (.val (.int .i64 C)))) := by
  refine acall_of_run Tryz.func261 rfl Tryz.ntmps261 rfl (fun X => ?_)
  unfold cTb at h
  repeat' (first
    | refine run_seq ?_
    | (refine k_pick rfl ?_; first | refine k_assignD rfl rfl ?_ | refine k_moveD rfl rfl ?_ | refine k_box rfl rfl rfl ?_ | refine k_invAS1 (thk [(1000, _), (1001, _), (1002, _), (1003, _), (1004, _)] 200) rfl rfl (by kernel_rfl) (h) rfl ⟨rfl, ⟨rfl, ⟨rfl, ⟨rfl, ⟨rfl, trivial⟩⟩⟩⟩⟩ rfl (freshB_ok rfl) rfl ?_ | refine k_loadBC rfl rfl rfl rfl ?_ | refine k_cmpNil rfl rfl rfl (by kernel_rfl) (by exact NilIs.ifc) rfl ?_)
    | refine run_opsEnd ?_
    | refine run_region ?_
    | refine run_condT rfl (by first | rfl | assumption) ?_
    | fail)
  refine run_retA () id (tm := [(10, .dat (.val (.bool (decide (C = 0)))))]) ?_ (resA_tmp rfl rfl)
  (refine ⟨?_, ?_, by rfl⟩ <;> repeat' (first | exact trivial | exact ALe.ptr rfl | exact ALe.own rfl | exact ALe.elt rfl | exact BLe.boxD _ _ | exact BLe.row rfl | exact BLe.res | exact BLe.dead rfl | exact ALe.dat (PLe.refl _) | exact CLe.nil | refine And.intro ?_ ?_ | refine ALe.iface ?_ | refine ALe.clo ?_ | refine CLe.cons ?_ ?_ | refine BLe.box ?_ | refine BLe.row ?_ | exact ALe.any _ | refine ALe.dat (PLe.of_eq ?_)))
end
set_option maxHeartbeats 4000000 in
theorem mapCmp_p (f : JV → JV → Int) (p q : List (ByteArray × JV)) (hp : (p.map (·.1)).Nodup) (hq : (q.map (·.1)).Nodup) (hl : (p.length + q.length) * 16 ≤ 140737488351232) (hE : ∀ k x y, lkJ p k = some x → lkJ q k = some y → PCall Tryz.prog 237 [dvA, dvV x, dvV y] (.val (.int .i64 (f x y)))) :
    PCall Tryz.prog 252 [dvA, dvM p, dvM q] (.val (.int .i64 (cmpMs f p q))) := by
  refine pcall_of_run Tryz.func252 rfl Tryz.ntmps252 rfl (fun X => ?_)
  unfold cmpMs
  by_cases h0 : p.length = 0 ∧ q.length = 0
  · rw [if_pos h0]
    have g1 : decide ((p.length : Int) = 0) = true := decide_eq_true (by omega)
    have g2 : decide ((q.length : Int) = 0) = true := decide_eq_true (by omega)
    repeat' (first
    | refine run_seq ?_
    | (refine k_pick rfl ?_; first | refine k_assignD rfl rfl ?_ | refine k_moveD rfl rfl ?_ | refine k_loadBD rfl rfl rfl (by first | rfl | (simp only [cellsD]; rfl)) ?_ | refine k_bin2B rfl rfl rfl rfl ?_ | refine k_pickT rfl rfl (by first | rfl | assumption) rfl ?_ | refine k_boxW rfl rfl rfl (by first | rfl | (simp only [cellsD]; rfl)) ?_ | refine k_storeB rfl rfl rfl rfl rfl ?_ | refine k_alloc rfl rfl ?_ | refine k_invS rfl rfl (by kernel_rfl) rfl (by first | exact lenM_p _) ?_ | refine k_cmpNil rfl rfl rfl (by kernel_rfl) (by exact NilIs.ifc) rfl ?_)
    | refine run_opsEnd ?_
    | refine run_region ?_
    | refine run_condT rfl (by first | rfl | assumption) ?_
    | (refine k_guardY rfl rfl (by first | rfl | assumption) ?_; first | refine k_loadBD rfl rfl rfl (by first | rfl | (simp only [cellsD]; rfl)) ?_ | refine k_bin2B rfl rfl rfl rfl ?_)
    | refine run_retOk (resOk_tmp rfl rfl ?_)
    | fail)
    all_goals exact PLe.refl _
  · rw [if_neg h0]
    have hpq : p ≠ [] ∨ q ≠ [] := by
      by_cases h1 : p = []
      · exact .inr fun h2 => h0 ⟨by rw [h1]; rfl, by rw [h2]; rfl⟩
      · exact .inl h1
    have hM := mzU_c (zipU_c (dmz_c (lex_c f p q (unionK p q) hpq hp hq hl (unionK_incr p q) (unionK_mem p q) hE)))
    generalize cmpKs f p q 0 (unionK p q) = C at *
    unfold cTb at hM
    by_cases h1 : p.length = 0
    · have g1 : decide ((p.length : Int) = 0) = true := decide_eq_true (by omega)
      have g2 : decide ((q.length : Int) = 0) = false := decide_eq_false (by omega)
      repeat' (first
    | refine run_seq ?_
    | (refine k_pick rfl ?_; first | refine k_assignD rfl rfl ?_ | refine k_moveD rfl rfl ?_ | refine k_loadBD rfl rfl rfl (by first | rfl | (simp only [cellsD]; rfl)) ?_ | refine k_bin2B rfl rfl rfl rfl ?_ | refine k_pickT rfl rfl (by first | rfl | assumption) rfl ?_ | refine k_boxW rfl rfl rfl (by first | rfl | (simp only [cellsD]; rfl)) ?_ | refine k_storeB rfl rfl rfl rfl rfl ?_ | refine k_alloc rfl rfl ?_ | refine k_acall1 (thk [(1000, _), (1001, _), (1002, _), (1003, _), (1004, _)] 200) rfl (by kernel_rfl) (hM) rfl ⟨rfl, ⟨rfl, ⟨rfl, ⟨rfl, ⟨rfl, trivial⟩⟩⟩⟩⟩ rfl (freshB_ok rfl) rfl ?_ | refine k_invS rfl rfl (by kernel_rfl) rfl (by first | exact lenM_p _) ?_ | refine k_makeFunc rfl ?_ | refine k_cmpNil rfl rfl rfl (by kernel_rfl) (by exact NilIs.ifc) rfl ?_)
    | refine run_opsEnd ?_
    | refine run_region ?_
    | refine run_condT rfl (by first | rfl | assumption) ?_
    | refine run_condF rfl (by first | rfl | assumption) ?_
    | (refine k_guardY rfl rfl (by first | rfl | assumption) ?_; first | refine k_loadBD rfl rfl rfl (by first | rfl | (simp only [cellsD]; rfl)) ?_ | refine k_bin2B rfl rfl rfl rfl ?_)
    | refine run_skip ?_
    | refine run_retOk (resOk_tmp rfl rfl ?_)
    | fail)
      all_goals exact PLe.refl _
    · have g1 : decide ((p.length : Int) = 0) = false := decide_eq_false (by omega)
      repeat' (first
    | refine run_seq ?_
    | (refine k_pick rfl ?_; first | refine k_assignD rfl rfl ?_ | refine k_moveD rfl rfl ?_ | refine k_loadBD rfl rfl rfl (by first | rfl | (simp only [cellsD]; rfl)) ?_ | refine k_bin2B rfl rfl rfl rfl ?_ | refine k_pickF rfl rfl (by first | rfl | assumption) rfl ?_ | refine k_boxW rfl rfl rfl (by first | rfl | (simp only [cellsD]; rfl)) ?_ | refine k_storeB rfl rfl rfl rfl rfl ?_ | refine k_alloc rfl rfl ?_ | refine k_acall1 (thk [(1000, _), (1001, _), (1002, _), (1003, _), (1004, _)] 200) rfl (by kernel_rfl) (hM) rfl ⟨rfl, ⟨rfl, ⟨rfl, ⟨rfl, ⟨rfl, trivial⟩⟩⟩⟩⟩ rfl (freshB_ok rfl) rfl ?_ | refine k_invS rfl rfl (by kernel_rfl) rfl (by first | exact lenM_p _) ?_ | refine k_makeFunc rfl ?_ | refine k_cmpNil rfl rfl rfl (by kernel_rfl) (by exact NilIs.ifc) rfl ?_)
    | refine run_opsEnd ?_
    | refine run_region ?_
    | refine run_condT rfl (by first | rfl | assumption) ?_
    | refine run_condF rfl (by first | rfl | assumption) ?_
    | refine k_guardNT rfl rfl (by first | rfl | assumption) rfl ?_
    | refine run_skip ?_
    | refine run_retOk (resOk_tmp rfl rfl ?_)
    | fail)
      all_goals exact PLe.refl _
end Go.Proofs.YtgmahieoiifpfaaGreat
end
section
set_option linter.unusedVariables false
namespace Go.Proofs.YtgmahieoiifpfaaGreat
open Go.RowKit
set_option linter.unusedSimpArgs false
set_option maxHeartbeats 40000000 in
theorem cmpO_null (k : JV) (hl : (JV.IsList .null && k.IsList) = false) (hm : (JV.IsMap .null && k.IsMap) = false) : PCall Tryz.prog 237 [dvA, dvV .null, dvV k] (.val (.int .i64 (cmpJ .null k))) := by
  refine pcall_of_run Tryz.func237 rfl Tryz.ntmps237 rfl (fun X => ?_)
  cases k
  all_goals first
    | exact absurd hl (fun h => Bool.noConfusion h)
    | exact absurd hm (fun h => Bool.noConfusion h)
    | skip
  all_goals clear hl hm
  all_goals
    repeat' (first
    | refine run_seq ?_
    | (refine k_pick rfl ?_; first | refine k_assignD rfl rfl ?_ | refine k_moveD rfl rfl ?_ | refine k_not rfl rfl ?_ | refine k_invD rfl rfl rfl (by kernel_rfl) rfl (by first | exact IsFloat_p _ | exact IsInt_p _ | exact IsString_p _ | exact IsBool_p _ | exact IsList_p _ | exact IsMap_p _ | exact IsNull_p _ | exact AsString_p _ | exact AsBool_p _ | exact AsFloat_p _ | exact AsInt_p _ | exact fltcmp_p _ _ | exact intcmp_p _ _ | exact boolcmp_p _ _ | exact strcmp_p _ _) ?_)
    | refine run_opsEnd ?_
    | refine run_region ?_
    | refine run_condT rfl (by first | rfl | assumption) ?_
    | refine run_condF rfl (by first | rfl | assumption) ?_
    | refine run_skip ?_
    | refine run_retOk (resOk_tmp rfl rfl ?_)
    | fail)
  all_goals exact PLe.of_eq (by unfold cmpJ; rfl)
set_option maxHeartbeats 40000000 in
theorem cmpO_bool (b : Bool) (k : JV) (hl : (JV.IsList (.bool b) && k.IsList) = false) (hm : (JV.IsMap (.bool b) && k.IsMap) = false) : PCall Tryz.prog 237 [dvA, dvV (.bool b), dvV k] (.val (.int .i64 (cmpJ (.bool b) k))) := by
  refine pcall_of_run Tryz.func237 rfl Tryz.ntmps237 rfl (fun X => ?_)
  cases k
  all_goals first
    | exact absurd hl (fun h => Bool.noConfusion h)
    | exact absurd hm (fun h => Bool.noConfusion h)
    | skip
  all_goals clear hl hm
  all_goals
    repeat' (first
    | refine run_seq ?_
    | (refine k_pick rfl ?_; first | refine k_assignD rfl rfl ?_ | refine k_moveD rfl rfl ?_ | refine k_call rfl (by kernel_rfl) rfl (by first | exact IsFloat_p _ | exact IsInt_p _ | exact IsString_p _ | exact IsBool_p _ | exact IsList_p _ | exact IsMap_p _ | exact IsNull_p _ | exact AsString_p _ | exact AsBool_p _ | exact AsFloat_p _ | exact AsInt_p _ | exact fltcmp_p _ _ | exact intcmp_p _ _ | exact boolcmp_p _ _ | exact strcmp_p _ _) ?_ | refine k_not rfl rfl ?_ | refine k_invD rfl rfl rfl (by kernel_rfl) rfl (by first | exact IsFloat_p _ | exact IsInt_p _ | exact IsString_p _ | exact IsBool_p _ | exact IsList_p _ | exact IsMap_p _ | exact IsNull_p _ | exact AsString_p _ | exact AsBool_p _ | exact AsFloat_p _ | exact AsInt_p _ | exact fltcmp_p _ _ | exact intcmp_p _ _ | exact boolcmp_p _ _ | exact strcmp_p _ _) ?_)
    | refine run_opsEnd ?_
    | refine run_region ?_
    | refine run_condT rfl (by first | rfl | assumption) ?_
    | refine run_condF rfl (by first | rfl | assumption) ?_
    | refine run_skip ?_
    | refine run_retOk (resOk_tmp rfl rfl ?_)
    | fail)
  all_goals exact PLe.of_eq (by unfold cmpJ; rfl)
end Go.Proofs.YtgmahieoiifpfaaGreat
end
section
set_option linter.unusedVariables false
namespace Go.Proofs.YtgmahieoiifpfaaGreat
open Go.RowKit
set_option linter.unusedSimpArgs false
set_option maxHeartbeats 40000000 in
theorem cmpO_int (b : Int) (k : JV) (hl : (JV.IsList (.int b) && k.IsList) = false) (hm : (JV.IsMap (.int b) && k.IsMap) = false) : PCall Tryz.prog 237 [dvA, dvV (.int b), dvV k] (.val (.int .i64 (cmpJ (.int b) k))) := by
  refine pcall_of_run Tryz.func237 rfl Tryz.ntmps237 rfl (fun X => ?_)
  cases k
  all_goals first
    | exact absurd hl (fun h => Bool.noConfusion h)
    | exact absurd hm (fun h => Bool.noConfusion h)
    | skip
  all_goals clear hl hm
  all_goals
    repeat' (first
    | refine run_seq ?_
    | (refine k_pick rfl ?_; first | refine k_assignD rfl rfl ?_ | refine k_moveD rfl rfl ?_ | refine k_call rfl (by kernel_rfl) rfl (by first | exact IsFloat_p _ | exact IsInt_p _ | exact IsString_p _ | exact IsBool_p _ | exact IsList_p _ | exact IsMap_p _ | exact IsNull_p _ | exact AsString_p _ | exact AsBool_p _ | exact AsFloat_p _ | exact AsInt_p _ | exact fltcmp_p _ _ | exact intcmp_p _ _ | exact boolcmp_p _ _ | exact strcmp_p _ _) ?_ | refine k_not rfl rfl ?_ | refine k_invD rfl rfl rfl (by kernel_rfl) rfl (by first | exact IsFloat_p _ | exact IsInt_p _ | exact IsString_p _ | exact IsBool_p _ | exact IsList_p _ | exact IsMap_p _ | exact IsNull_p _ | exact AsString_p _ | exact AsBool_p _ | exact AsFloat_p _ | exact AsInt_p _ | exact fltcmp_p _ _ | exact intcmp_p _ _ | exact boolcmp_p _ _ | exact strcmp_p _ _) ?_ | refine k_convF (q := .f64) rfl rfl (by kernel_rfl) (by kernel_rfl) ?_)
    | refine run_opsEnd ?_
    | refine run_region ?_
    | refine run_condT rfl (by first | rfl | assumption) ?_
    | refine run_condF rfl (by first | rfl | assumption) ?_
    | refine run_skip ?_
    | refine run_retOk (resOk_tmp rfl rfl ?_)
    | fail)
  all_goals exact PLe.of_eq (by unfold cmpJ; rfl)
set_option maxHeartbeats 40000000 in
theorem cmpO_flt (b : Nat) (k : JV) (hl : (JV.IsList (.flt b) && k.IsList) = false) (hm : (JV.IsMap (.flt b) && k.IsMap) = false) : PCall Tryz.prog 237 [dvA, dvV (.flt b), dvV k] (.val (.int .i64 (cmpJ (.flt b) k))) := by
  refine pcall_of_run Tryz.func237 rfl Tryz.ntmps237 rfl (fun X => ?_)
  cases k
  all_goals first
    | exact absurd hl (fun h => Bool.noConfusion h)
    | exact absurd hm (fun h => Bool.noConfusion h)
    | skip
  all_goals clear hl hm
  all_goals
    repeat' (first
    | refine run_seq ?_
    | (refine k_pick rfl ?_; first | refine k_assignD rfl rfl ?_ | refine k_moveD rfl rfl ?_ | refine k_call rfl (by kernel_rfl) rfl (by first | exact IsFloat_p _ | exact IsInt_p _ | exact IsString_p _ | exact IsBool_p _ | exact IsList_p _ | exact IsMap_p _ | exact IsNull_p _ | exact AsString_p _ | exact AsBool_p _ | exact AsFloat_p _ | exact AsInt_p _ | exact fltcmp_p _ _ | exact intcmp_p _ _ | exact boolcmp_p _ _ | exact strcmp_p _ _) ?_ | refine k_not rfl rfl ?_ | refine k_invD rfl rfl rfl (by kernel_rfl) rfl (by first | exact IsFloat_p _ | exact IsInt_p _ | exact IsString_p _ | exact IsBool_p _ | exact IsList_p _ | exact IsMap_p _ | exact IsNull_p _ | exact AsString_p _ | exact AsBool_p _ | exact AsFloat_p _ | exact AsInt_p _ | exact fltcmp_p _ _ | exact intcmp_p _ _ | exact boolcmp_p _ _ | exact strcmp_p _ _) ?_ | refine k_convF (q := .f64) rfl rfl (by kernel_rfl) (by kernel_rfl) ?_)
    | refine run_opsEnd ?_
    | refine run_region ?_
    | refine run_condT rfl (by first | rfl | assumption) ?_
    | refine run_condF rfl (by first | rfl | assumption) ?_
    | refine run_skip ?_
    | refine run_retOk (resOk_tmp rfl rfl ?_)
    | fail)
  all_goals exact PLe.of_eq (by unfold cmpJ; rfl)
end Go.Proofs.YtgmahieoiifpfaaGreat
end
section
set_option linter.unusedVariables false
namespace Go.Proofs.YtgmahieoiifpfaaGreat
open Go.RowKit
set_option linter.unusedSimpArgs false
set_option maxHeartbeats 40000000 in
theorem cmpO_str (b : ByteArray) (k : JV) (hl : (JV.IsList (.str b) && k.IsList) = false) (hm : (JV.IsMap (.str b) && k.IsMap) = false) : PCall Tryz.prog 237 [dvA, dvV (.str b), dvV k] (.val (.int .i64 (cmpJ (.str b) k))) := by
  refine pcall_of_run Tryz.func237 rfl Tryz.ntmps237 rfl (fun X => ?_)
  cases k
  all_goals first
    | exact absurd hl (fun h => Bool.noConfusion h)
    | exact absurd hm (fun h => Bool.noConfusion h)
    | skip
  all_goals clear hl hm
  all_goals
    repeat' (first
    | refine run_seq ?_
    | (refine k_pick rfl ?_; first | refine k_assignD rfl rfl ?_ | refine k_moveD rfl rfl ?_ | refine k_call rfl (by kernel_rfl) rfl (by first | exact IsFloat_p _ | exact IsInt_p _ | exact IsString_p _ | exact IsBool_p _ | exact IsList_p _ | exact IsMap_p _ | exact IsNull_p _ | exact AsString_p _ | exact AsBool_p _ | exact AsFloat_p _ | exact AsInt_p _ | exact fltcmp_p _ _ | exact intcmp_p _ _ | exact boolcmp_p _ _ | exact strcmp_p _ _) ?_ | refine k_not rfl rfl ?_ | refine k_invD rfl rfl rfl (by kernel_rfl) rfl (by first | exact IsFloat_p _ | exact IsInt_p _ | exact IsString_p _ | exact IsBool_p _ | exact IsList_p _ | exact IsMap_p _ | exact IsNull_p _ | exact AsString_p _ | exact AsBool_p _ | exact AsFloat_p _ | exact AsInt_p _ | exact fltcmp_p _ _ | exact intcmp_p _ _ | exact boolcmp_p _ _ | exact strcmp_p _ _) ?_)
    | refine run_opsEnd ?_
    | refine run_region ?_
    | refine run_condT rfl (by first | rfl | assumption) ?_
    | refine run_condF rfl (by first | rfl | assumption) ?_
    | refine run_skip ?_
    | refine run_retOk (resOk_tmp rfl rfl ?_)
    | fail)
  all_goals exact PLe.of_eq (by unfold cmpJ; rfl)
set_option maxHeartbeats 40000000 in
theorem cmpO_list (b : List JV) (k : JV) (hl : (JV.IsList (.list b) && k.IsList) = false) (hm : (JV.IsMap (.list b) && k.IsMap) = false) : PCall Tryz.prog 237 [dvA, dvV (.list b), dvV k] (.val (.int .i64 (cmpJ (.list b) k))) := by
  refine pcall_of_run Tryz.func237 rfl Tryz.ntmps237 rfl (fun X => ?_)
  cases k
  all_goals first
    | exact absurd hl (fun h => Bool.noConfusion h)
    | exact absurd hm (fun h => Bool.noConfusion h)
    | skip
  all_goals clear hl hm
  all_goals
    repeat' (first
    | refine run_seq ?_
    | (refine k_pick rfl ?_; first | refine k_assignD rfl rfl ?_ | refine k_moveD rfl rfl ?_ | refine k_not rfl rfl ?_ | refine k_invD rfl rfl rfl (by kernel_rfl) rfl (by first | exact IsFloat_p _ | exact IsInt_p _ | exact IsString_p _ | exact IsBool_p _ | exact IsList_p _ | exact IsMap_p _ | exact IsNull_p _ | exact AsString_p _ | exact AsBool_p _ | exact AsFloat_p _ | exact AsInt_p _ | exact fltcmp_p _ _ | exact intcmp_p _ _ | exact boolcmp_p _ _ | exact strcmp_p _ _) ?_)
    | refine run_opsEnd ?_
    | refine run_region ?_
    | refine run_condT rfl (by first | rfl | assumption) ?_
    | refine run_condF rfl (by first | rfl | assumption) ?_
    | refine run_skip ?_
    | refine run_retOk (resOk_tmp rfl rfl ?_)
    | fail)
  all_goals exact PLe.of_eq (by unfold cmpJ; rfl)
end Go.Proofs.YtgmahieoiifpfaaGreat
end
section
set_option linter.unusedVariables false
namespace Go.Proofs.YtgmahieoiifpfaaGreat
open Go.RowKit
set_option linter.unusedSimpArgs false
set_option maxHeartbeats 40000000 in
theorem cmpO_map (b : List (ByteArray × JV)) (k : JV) (hl : (JV.IsList (.map b) && k.IsList) = false) (hm : (JV.IsMap (.map b) && k.IsMap) = false) : PCall Tryz.prog 237 [dvA, dvV (.map b), dvV k] (.val (.int .i64 (cmpJ (.map b) k))) := by
  refine pcall_of_run Tryz.func237 rfl Tryz.ntmps237 rfl (fun X => ?_)
  cases k
  all_goals first
    | exact absurd hl (fun h => Bool.noConfusion h)
    | exact absurd hm (fun h => Bool.noConfusion h)
    | skip
  all_goals clear hl hm
  all_goals
    repeat' (first
    | refine run_seq ?_
    | (refine k_pick rfl ?_; first | refine k_assignD rfl rfl ?_ | refine k_moveD rfl rfl ?_ | refine k_not rfl rfl ?_ | refine k_invD rfl rfl rfl (by kernel_rfl) rfl (by first | exact IsFloat_p _ | exact IsInt_p _ | exact IsString_p _ | exact IsBool_p _ | exact IsList_p _ | exact IsMap_p _ | exact IsNull_p _ | exact AsString_p _ | exact AsBool_p _ | exact AsFloat_p _ | exact AsInt_p _ | exact fltcmp_p _ _ | exact intcmp_p _ _ | exact boolcmp_p _ _ | exact strcmp_p _ _) ?_)
    | refine run_opsEnd ?_
    | refine run_region ?_
    | refine run_condT rfl (by first | rfl | assumption) ?_
    | refine run_condF rfl (by first | rfl | assumption) ?_
    | refine run_skip ?_
    | refine run_retOk (resOk_tmp rfl rfl ?_)
    | fail)
  all_goals exact PLe.of_eq (by unfold cmpJ; rfl)
end Go.Proofs.YtgmahieoiifpfaaGreat
end
section
set_option linter.unusedVariables false
namespace Go.Proofs.YtgmahieoiifpfaaGreat
open Go.RowKit
set_option linter.unusedSimpArgs false
set_option maxHeartbeats 4000000 in
theorem cmpList_p (l q : List JV) (hE : ∀ x ∈ l, ∀ y ∈ q, PCall Tryz.prog 237 [dvA, dvV x, dvV y] (.val (.int .i64 (cmpJ x y)))) : PCall Tryz.prog 237 [dvA, dvV (.list l), dvV (.list q)] (.val (.int .i64 (cmpJ (.list l) (.list q)))) := by
  have hC := lstCmp_p cmpJ l q hE
  rw [cmpJ_list]
  refine pcall_of_run Tryz.func237 rfl Tryz.ntmps237 rfl (fun X => ?_)
  repeat' (first
    | refine run_seq ?_
    | (refine k_pick rfl ?_; first | refine k_assignD rfl rfl ?_ | refine k_moveD rfl rfl ?_ | refine k_call rfl (by kernel_rfl) rfl (by first | exact IsFloat_p _ | exact IsInt_p _ | exact IsString_p _ | exact IsBool_p _ | exact IsList_p _ | exact asList_p _ | exact hC) ?_ | refine k_not rfl rfl ?_ | refine k_invD rfl rfl rfl (by kernel_rfl) rfl (by first | exact IsFloat_p _ | exact IsInt_p _ | exact IsString_p _ | exact IsBool_p _ | exact IsList_p _ | exact asList_p _ | exact hC) ?_ | refine k_nilI rfl rfl ?_ | refine k_deferA rfl free_idle ?_)
    | refine run_opsEnd ?_
    | refine run_region ?_
    | refine run_condT rfl (by first | rfl | assumption) ?_
    | refine run_condF rfl (by first | rfl | assumption) ?_
    | refine run_skip ?_
    | refine run_retOk (resOk_tmp rfl rfl ?_)
    | fail)
  all_goals exact PLe.refl _
set_option maxHeartbeats 4000000 in
theorem cmpMap_p (m q : List (ByteArray × JV)) (hE : ∀ k x y, lkJ m k = some x → lkJ q k = some y → PCall Tryz.prog 237 [dvA, dvV x, dvV y] (.val (.int .i64 (cmpJ x y)))) : PCall Tryz.prog 237 [dvA, dvV (.map m), dvV (.map q)] (.val (.int .i64 (cmpJ (.map m) (.map q)))) := by
  refine PCall.ex fun w F vs hvs => ?_
  have hj : JOk (.map m) ∧ JOk (.map q) := by
    unfold Reps at hvs; obtain ⟨_, _, _, _, hvs⟩ := hvs
    unfold Reps at hvs; obtain ⟨_, _, _, hv1, hvs⟩ := hvs
    unfold Reps at hvs; obtain ⟨_, _, _, hv2, _⟩ := hvs
    have key : ∀ {j : JV} {v : Value}, Rep w F (dvV j) v → JOk j := by
      intro j v h
      unfold dvV Rep at h
      obtain ⟨_, _, h⟩ := h
      unfold Rep at h
      obtain ⟨_, _, _, _, _, h, _⟩ := h
      unfold Rep at h
      obtain ⟨_, _, h, _⟩ := h
      unfold Reps at h
      obtain ⟨_, _, _, h, _⟩ := h
      unfold pdJ Rep at h
      exact h.2
    exact ⟨key hv1, key hv2⟩
  clear hvs vs F w
  unfold JOk at hj
  have hC := mapCmp_p cmpJ m q hj.1.1 hj.2.1 (by omega) hE
  rw [cmpJ_map]
  clear hj
  refine pcall_of_run Tryz.func237 rfl Tryz.ntmps237 rfl (fun X => ?_)
  repeat' (first
    | refine run_seq ?_
    | (refine k_pick rfl ?_; first | refine k_assignD rfl rfl ?_ | refine k_moveD rfl rfl ?_ | refine k_call rfl (by kernel_rfl) rfl (by first | exact IsFloat_p _ | exact IsInt_p _ | exact IsString_p _ | exact IsBool_p _ | exact IsList_p _ | exact IsMap_p _ | exact asMap_p _ | exact hC) ?_ | refine k_not rfl rfl ?_ | refine k_invD rfl rfl rfl (by kernel_rfl) rfl (by first | exact IsFloat_p _ | exact IsInt_p _ | exact IsString_p _ | exact IsBool_p _ | exact IsList_p _ | exact IsMap_p _ | exact asMap_p _ | exact hC) ?_ | refine k_nilI rfl rfl ?_ | refine k_deferA rfl free_idle ?_)
    | refine run_opsEnd ?_
    | refine run_region ?_
    | refine run_condT rfl (by first | rfl | assumption) ?_
    | refine run_condF rfl (by first | rfl | assumption) ?_
    | refine run_skip ?_
    | refine run_retOk (resOk_tmp rfl rfl ?_)
    | fail)
  all_goals exact PLe.refl _
theorem lkJ_mem' : ∀ {m : List (ByteArray × JV)} {k : ByteArray} {j : JV}, lkJ m k = some j → ∃ y ∈ m, y.2 = j := fun {m k j} h => by
  rw [lkJ_getA] at h
  exact ⟨(k, j), getA_mem h, rfl⟩
theorem cmpOth_p (j k : JV) (hl : (j.IsList && k.IsList) = false) (hm : (j.IsMap && k.IsMap) = false) : PCall Tryz.prog 237 [dvA, dvV j, dvV k] (.val (.int .i64 (cmpJ j k))) := by
  cases j
  · exact cmpO_null k hl hm
  · exact cmpO_bool _ k hl hm
  · exact cmpO_int _ k hl hm
  · exact cmpO_flt _ k hl hm
  · exact cmpO_str _ k hl hm
  · exact cmpO_list _ k hl hm
  · exact cmpO_map _ k hl hm
theorem cmp_p : ∀ (k j : JV), PCall Tryz.prog 237 [dvA, dvV j, dvV k] (.val (.int .i64 (cmpJ j k)))
  | .list q, .list l => cmpList_p l q (fun x _ y hy => cmp_p y x)
  | .map q, .map m => cmpMap_p m q (fun k x y _ hy => by
      obtain ⟨z, hz, e⟩ := lkJ_mem' hy
      rw [← e]
      exact cmp_p z.2 x)
  | .list q, .null => cmpOth_p _ _ rfl rfl
  | .list q, .bool _ => cmpOth_p _ _ rfl rfl
  | .list q, .int _ => cmpOth_p _ _ rfl rfl
  | .list q, .flt _ => cmpOth_p _ _ rfl rfl
  | .list q, .str _ => cmpOth_p _ _ rfl rfl
  | .list q, .map _ => cmpOth_p _ _ rfl rfl
  | .map q, .null => cmpOth_p _ _ rfl rfl
  | .map q, .bool _ => cmpOth_p _ _ rfl rfl
  | .map q, .int _ => cmpOth_p _ _ rfl rfl
  | .map q, .flt _ => cmpOth_p _ _ rfl rfl
  | .map q, .str _ => cmpOth_p _ _ rfl rfl
  | .map q, .list _ => cmpOth_p _ _ rfl rfl
  | .null, j => cmpOth_p _ _ (by cases j <;> rfl) (by cases j <;> rfl)
  | .bool _, j => cmpOth_p _ _ (by cases j <;> rfl) (by cases j <;> rfl)
  | .int _, j => cmpOth_p _ _ (by cases j <;> rfl) (by cases j <;> rfl)
  | .flt _, j => cmpOth_p _ _ (by cases j <;> rfl) (by cases j <;> rfl)
  | .str _, j => cmpOth_p _ _ (by cases j <;> rfl) (by cases j <;> rfl)
termination_by k => SizeOf.sizeOf k
decreasing_by
  all_goals simp_wf
  · have := List.sizeOf_lt_of_mem hy; omega
  · have := List.sizeOf_lt_of_mem hz
    obtain ⟨y1, y2⟩ := z
    simp at this ⊢
    omega
theorem compare_p (j k : JV) : PCall Tryz.prog 213 [dvV j, dvV k] (.val (.int .i64 (cmpJ j k))) := by
  have hC := cmp_p k j
  refine pcall_of_run Tryz.func213 rfl Tryz.ntmps213 rfl (fun X => ?_)
  repeat' (first
    | refine run_seq ?_
    | (refine k_pick rfl ?_; first | refine k_assignD rfl rfl ?_ | refine k_moveD rfl rfl ?_ | refine k_boxW rfl rfl rfl (by first | rfl | (simp only [cellsD]; rfl)) ?_ | refine k_build rfl rfl rfl ?_ | refine k_ifaceP rfl rfl (by kernel_rfl) ?_ | refine k_callZ gV rfl (by kernel_rfl) rfl (by first | exact hC) Flat.val ?_)
    | refine run_opsEnd ?_
    | refine run_region ?_
    | refine run_retOk (resOk_tmp rfl rfl ?_)
    | fail)
  all_goals exact PLe.refl _
end Go.Proofs.YtgmahieoiifpfaaGreat
end
section
namespace Go.Proofs.YtgmahieoiifpfaaGreat
open Go.RowKit
set_option linter.unusedSimpArgs false
/-- The value is a number. -/
def isNum (x : GV) : Bool := decide (x.kind = 2) || decide (x.kind = 3)
set_option maxHeartbeats 1000000 in
set_option maxRecDepth 100000 in
theorem number_any (x : GV) (w : World) (v : Value) (hv : IsV w (Btw 0 w.heap.size) x v) :
    Calls Tryz.prog 199 #[v] w fun e w' => e = .returned (.bool (isNum x)) ∧ Below w.heap.size w w' := by
  obtain ⟨a0, c0, a1, c1, rfl⟩ := hv.form
  clear hv
  by_cases h2 : x.kind = 2
  · have e : isNum x = true := by simp [isNum, h2]
    rw [e, h2]
    clear h2 e
    go_enter Tryz.func199, Tryz.ntmps199
    go_wp2_with fail
    go_ret
    exact ⟨rfl, (Below.refl _ _).alloc (Nat.le_refl _) _⟩
  by_cases h3 : x.kind = 3
  · have e : isNum x = true := by simp [isNum, h3]
    rw [e, h3]
    clear h2 h3 e
    go_enter Tryz.func199, Tryz.ntmps199
    go_wp2_with fail
    go_ret
    exact ⟨rfl, (Below.refl _ _).alloc (Nat.le_refl _) _⟩
  · have e : isNum x = false := by simp [isNum, h2, h3]
    rw [e]
    have k2 : (x.kind == 2) = false := by simp [h2]
    have k3 : (x.kind == 3) = false := by simp [h3]
    clear h2 h3 e
    go_enter Tryz.func199, Tryz.ntmps199
    go_wp2_with fail
    go_ret
    exact ⟨rfl, (Below.refl _ _).alloc (Nat.le_refl _) _⟩
/-- A number as a floating-point number. -/
def asF (x : GV) : Nat := if x.kind = 2 then floatOfInt FloatKind.f64 x.n else x.f
set_option maxHeartbeats 1000000 in
set_option maxRecDepth 100000 in
theorem asFloat_any (x : GV) (w : World) (v : Value) (hv : IsV w (Btw 0 w.heap.size) x v) :
    Calls Tryz.prog 200 #[v] w fun e w' => e = .returned (.float .f64 (asF x)) ∧ Below w.heap.size w w' := by
  obtain ⟨a0, c0, a1, c1, rfl⟩ := hv.form
  clear hv
  by_cases h2 : x.kind = 2
  · have e : asF x = floatOfInt FloatKind.f64 x.n := by simp [asF, h2]
    rw [e, h2]
    clear h2 e
    go_enter Tryz.func200, Tryz.ntmps200
    go_wp2_with fail
    go_ret
    exact ⟨rfl, (Below.refl _ _).alloc (Nat.le_refl _) _⟩
  · have e : asF x = x.f := by simp [asF, h2]
    rw [e]
    have k2 : (x.kind == 2) = false := by simp [h2]
    clear h2 e
    go_enter Tryz.func200, Tryz.ntmps200
    go_wp2_with fail
    go_ret
    exact ⟨rfl, (Below.refl _ _).alloc (Nat.le_refl _) _⟩
end Go.Proofs.YtgmahieoiifpfaaGreat
end
section
set_option linter.unusedVariables false
namespace Go.Proofs.YtgmahieoiifpfaaGreat
open Go.RowKit
set_option linter.unusedSimpArgs false
/-- How two floating-point numbers compare. -/
def cmpFs (a b : Nat) : Int := if FloatKind.f64.format.order a b == some .lt then -1 else if FloatKind.f64.format.order a b == some .gt then 1 else 0
theorem sInts_p (a b : Int) : PCall Tryz.prog 202 [.val (.int .i64 a), .val (.int .i64 b)] (.val (.int .i64 (cmpI a b))) := by
  refine pcall_of_run Tryz.func202 rfl Tryz.ntmps202 rfl (fun X => ?_)
  unfold cmpI
  by_cases h1 : a < b
  · have q1 : decide (a < b) = true := by simpa using h1
    rw [if_pos h1]
    repeat' (first
    | refine run_seq ?_
    | (refine k_pick rfl ?_; first | refine k_assignD rfl rfl ?_ | refine k_moveD rfl rfl ?_ | refine k_bin2B rfl rfl rfl rfl ?_)
    | refine run_opsEnd ?_
    | refine run_region ?_
    | refine run_condT rfl (by first | rfl | assumption) ?_
    | refine run_retOk (resOk_tmp rfl rfl ?_)
    | fail)
    all_goals exact PLe.refl _
  · have q1 : decide (a < b) = false := by simpa using h1
    rw [if_neg h1]
    by_cases h2 : b < a
    · have q2 : decide (b < a) = true := by simpa using h2
      rw [if_pos h2]
      repeat' (first
    | refine run_seq ?_
    | (refine k_pick rfl ?_; first | refine k_assignD rfl rfl ?_ | refine k_moveD rfl rfl ?_ | refine k_bin2B rfl rfl rfl rfl ?_)
    | refine run_opsEnd ?_
    | refine run_region ?_
    | refine run_condT rfl (by first | rfl | assumption) ?_
    | refine run_condF rfl (by first | rfl | assumption) ?_
    | refine run_skip ?_
    | refine run_retOk (resOk_tmp rfl rfl ?_)
    | fail)
      all_goals exact PLe.refl _
    · have q2 : decide (b < a) = false := by simpa using h2
      rw [if_neg h2]
      repeat' (first
    | refine run_seq ?_
    | (refine k_pick rfl ?_; first | refine k_assignD rfl rfl ?_ | refine k_moveD rfl rfl ?_ | refine k_bin2B rfl rfl rfl rfl ?_)
    | refine run_opsEnd ?_
    | refine run_region ?_
    | refine run_condF rfl (by first | rfl | assumption) ?_
    | refine run_skip ?_
    | refine run_retOk (resOk_tmp rfl rfl ?_)
    | fail)
      all_goals exact PLe.refl _
theorem sFloats_p (a b : Nat) : PCall Tryz.prog 258 [.val (.float .f64 a), .val (.float .f64 b)] (.val (.int .i64 (cmpFs a b))) := by
  refine pcall_of_run Tryz.func258 rfl Tryz.ntmps258 rfl (fun X => ?_)
  unfold cmpFs
  cases h1 : (FloatKind.f64.format.order a b == some .lt) <;> cases h2 : (FloatKind.f64.format.order a b == some .gt)
  all_goals
    repeat' (first
    | refine run_seq ?_
    | (refine k_pick rfl ?_; first | refine k_assignD rfl rfl ?_ | refine k_moveD rfl rfl ?_ | refine k_fltC rfl rfl rfl rfl ?_)
    | refine run_opsEnd ?_
    | refine run_region ?_
    | refine run_condT rfl (by first | rfl | assumption) ?_
    | refine run_condF rfl (by first | rfl | assumption) ?_
    | refine run_skip ?_
    | refine run_retOk (resOk_tmp rfl rfl ?_)
    | fail)
  all_goals exact PLe.refl _
theorem sStrs_p (a b : ByteArray) : PCall Tryz.prog 157 [.val (.string a), .val (.string b)] (.val (.int .i64 (cmpS a b))) := by
  intro w F vs hF hv
  unfold Reps at hv; obtain ⟨v, r, rfl, h1, hv⟩ := hv
  unfold Reps at hv; obtain ⟨v', r', rfl, h2, hv⟩ := hv
  unfold Reps at hv; subst hv
  unfold Rep at h1 h2
  obtain ⟨rfl, ha⟩ := h1
  obtain ⟨rfl, hb⟩ := h2
  refine (CompareStrings_any a b w ha hb).mono ?_
  rintro e w' ⟨rfl, hB⟩
  refine ⟨_, rfl, hB, ?_⟩
  unfold Rep
  refine ⟨rfl, ?_⟩
  show (Lit.int .i64 _).wf = true
  unfold cmpS
  split
  · rfl
  · split <;> rfl
/-- The rank of a value's kind. -/
def rankV (x : GV) : Int := if x.kind = 2 then 0 else if x.kind = 3 then 0 else if x.kind = 4 then 1 else if x.kind = 1 then 2 else if x.kind = 5 then 3 else if x.kind = 6 then 4 else 5
theorem sRank_p (x : GV) : PCall Tryz.prog 257 [qV x] (.val (.int .i64 (rankV x))) := by
  obtain ⟨k, n, f, s, ks, l⟩ := x
  rw [show rankV (.mk k n f s ks l) = if k = 2 then 0 else if k = 3 then 0 else if k = 4 then 1 else if k = 1 then 2 else if k = 5 then 3 else if k = 6 then 4 else 5 from rfl]
  refine pcall_of_run Tryz.func257 rfl Tryz.ntmps257 rfl (fun X => ?_)
  by_cases h2 : k = 2
  · subst h2
    repeat' (first
    | refine run_seq ?_
    | (refine k_pick rfl ?_; first | refine k_assignD rfl rfl ?_ | refine k_fieldAddrB rfl rfl rfl ?_ | refine k_loadBD rfl rfl rfl (by first | rfl | (simp only [cellsD]; rfl)) ?_ | refine k_bin2B rfl rfl rfl rfl ?_ | refine k_boxW rfl rfl rfl (by first | rfl | (simp only [cellsD]; rfl)) ?_)
    | refine run_opsEnd ?_
    | refine run_region ?_
    | refine run_condT rfl (by first | rfl | assumption) ?_
    | refine run_block ?_
    | refine run_skip ?_
    | refine run_retOk (resOk_tmp rfl rfl ?_)
    | fail)
    all_goals exact PLe.refl _
  have q2 : decide (k = 2) = false := decide_eq_false h2
  rw [if_neg h2]
  by_cases h3 : k = 3
  · subst h3
    repeat' (first
    | refine run_seq ?_
    | (refine k_pick rfl ?_; first | refine k_assignD rfl rfl ?_ | refine k_fieldAddrB rfl rfl rfl ?_ | refine k_loadBD rfl rfl rfl (by first | rfl | (simp only [cellsD]; rfl)) ?_ | refine k_bin2B rfl rfl rfl rfl ?_ | refine k_boxW rfl rfl rfl (by first | rfl | (simp only [cellsD]; rfl)) ?_)
    | refine run_opsEnd ?_
    | refine run_region ?_
    | refine run_condT rfl (by first | rfl | assumption) ?_
    | refine run_condF rfl (by first | rfl | assumption) ?_
    | refine run_block ?_
    | refine run_retOk (resOk_tmp rfl rfl ?_)
    | fail)
    all_goals exact PLe.refl _
  have q3 : decide (k = 3) = false := decide_eq_false h3
  rw [if_neg h3]
  by_cases h4 : k = 4
  · subst h4
    repeat' (first
    | refine run_seq ?_
    | (refine k_pick rfl ?_; first | refine k_assignD rfl rfl ?_ | refine k_fieldAddrB rfl rfl rfl ?_ | refine k_loadBD rfl rfl rfl (by first | rfl | (simp only [cellsD]; rfl)) ?_ | refine k_bin2B rfl rfl rfl rfl ?_ | refine k_boxW rfl rfl rfl (by first | rfl | (simp only [cellsD]; rfl)) ?_)
    | refine run_opsEnd ?_
    | refine run_region ?_
    | refine run_condT rfl (by first | rfl | assumption) ?_
    | refine run_condF rfl (by first | rfl | assumption) ?_
    | refine run_block ?_
    | refine run_retOk (resOk_tmp rfl rfl ?_)
    | fail)
    all_goals exact PLe.refl _
  have q4 : decide (k = 4) = false := decide_eq_false h4
  rw [if_neg h4]
  by_cases h1 : k = 1
  · subst h1
    repeat' (first
    | refine run_seq ?_
    | (refine k_pick rfl ?_; first | refine k_assignD rfl rfl ?_ | refine k_fieldAddrB rfl rfl rfl ?_ | refine k_loadBD rfl rfl rfl (by first | rfl | (simp only [cellsD]; rfl)) ?_ | refine k_bin2B rfl rfl rfl rfl ?_ | refine k_boxW rfl rfl rfl (by first | rfl | (simp only [cellsD]; rfl)) ?_)
    | refine run_opsEnd ?_
    | refine run_region ?_
    | refine run_condT rfl (by first | rfl | assumption) ?_
    | refine run_condF rfl (by first | rfl | assumption) ?_
    | refine run_block ?_
    | refine run_retOk (resOk_tmp rfl rfl ?_)
    | fail)
    all_goals exact PLe.refl _
  have q1 : decide (k = 1) = false := decide_eq_false h1
  rw [if_neg h1]
  by_cases h5 : k = 5
  · subst h5
    repeat' (first
    | refine run_seq ?_
    | (refine k_pick rfl ?_; first | refine k_assignD rfl rfl ?_ | refine k_fieldAddrB rfl rfl rfl ?_ | refine k_loadBD rfl rfl rfl (by first | rfl | (simp only [cellsD]; rfl)) ?_ | refine k_bin2B rfl rfl rfl rfl ?_ | refine k_boxW rfl rfl rfl (by first | rfl | (simp only [cellsD]; rfl)) ?_)
    | refine run_opsEnd ?_
    | refine run_region ?_
    | refine run_condT rfl (by first | rfl | assumption) ?_
    | refine run_condF rfl (by first | rfl | assumption) ?_
    | refine run_block ?_
    | refine run_retOk (resOk_tmp rfl rfl ?_)
    | fail)
    all_goals exact PLe.refl _
  have q5 : decide (k = 5) = false := decide_eq_false h5
  rw [if_neg h5]
  by_cases h6 : k = 6
  · subst h6
    repeat' (first
    | refine run_seq ?_
    | (refine k_pick rfl ?_; first | refine k_assignD rfl rfl ?_ | refine k_fieldAddrB rfl rfl rfl ?_ | refine k_loadBD rfl rfl rfl (by first | rfl | (simp only [cellsD]; rfl)) ?_ | refine k_bin2B rfl rfl rfl rfl ?_ | refine k_boxW rfl rfl rfl (by first | rfl | (simp only [cellsD]; rfl)) ?_)
    | refine run_opsEnd ?_
    | refine run_region ?_
    | refine run_condT rfl (by first | rfl | assumption) ?_
    | refine run_condF rfl (by first | rfl | assumption) ?_
    | refine run_block ?_
    | refine run_retOk (resOk_tmp rfl rfl ?_)
    | fail)
    all_goals exact PLe.refl _
  have q6 : decide (k = 6) = false := decide_eq_false h6
  rw [if_neg h6]
  repeat' (first
    | refine run_seq ?_
    | (refine k_pick rfl ?_; first | refine k_assignD rfl rfl ?_ | refine k_fieldAddrB rfl rfl rfl ?_ | refine k_loadBD rfl rfl rfl (by first | rfl | (simp only [cellsD]; rfl)) ?_ | refine k_bin2B rfl rfl rfl rfl ?_ | refine k_boxW rfl rfl rfl (by first | rfl | (simp only [cellsD]; rfl)) ?_)
    | refine run_opsEnd ?_
    | refine run_region ?_
    | refine run_condF rfl (by first | rfl | assumption) ?_
    | refine run_block ?_
    | refine run_blkEnd ?_
    | refine run_skip ?_
    | refine run_retOk (resOk_tmp rfl rfl ?_)
    | fail)
  all_goals exact PLe.refl _
end Go.Proofs.YtgmahieoiifpfaaGreat
end
section
set_option linter.unusedVariables false
namespace Go.Proofs.YtgmahieoiifpfaaGreat
open Go.RowKit
set_option linter.unusedSimpArgs false
mutual
/-- How two plain values compare. -/
def cmpP : GV → GV → Int
  | .mk k n f s ks l, .mk k' n' f' s' ks' l' =>
    if cmpI (rankV (.mk k n f s ks l)) (rankV (.mk k' n' f' s' ks' l')) ≠ 0 then cmpI (rankV (.mk k n f s ks l)) (rankV (.mk k' n' f' s' ks' l'))
    else if rankV (.mk k n f s ks l) = 0 then (if k = 2 ∧ k' = 2 then cmpI n n' else cmpFs (asF (.mk k n f s ks l)) (asF (.mk k' n' f' s' ks' l')))
    else if rankV (.mk k n f s ks l) = 1 then cmpS s s'
    else if rankV (.mk k n f s ks l) = 2 then cmpI n n'
    else if rankV (.mk k n f s ks l) = 3 then cmpPl l l'
    else if rankV (.mk k n f s ks l) = 4 then cmpPm ks l ks' l'
    else 0
def cmpPl : List GV → List GV → Int
  | x :: r, y :: q => if cmpP x y ≠ 0 then cmpP x y else cmpPl r q
  | [], b => cmpI 0 b.length
  | a, [] => cmpI a.length 0
def cmpPm : List ByteArray → List GV → List ByteArray → List GV → Int
  | k :: ks, x :: l, k' :: ks', y :: l' => if cmpS k k' ≠ 0 then cmpS k k' else if cmpP x y ≠ 0 then cmpP x y else cmpPm ks l ks' l'
  | ks, _, ks', _ => cmpI ks.length ks'.length
end
mutual
/-- Every key has a value. -/
def PlG : GV → Prop
  | .mk _ _ _ _ ks l => ks.length ≤ l.length ∧ PlGs l
def PlGs : List GV → Prop
  | [] => True
  | x :: r => PlG x ∧ PlGs r
end
theorem PlGs_mem : ∀ {l : List GV}, PlGs l → ∀ y ∈ l, PlG y
  | x :: r, h, y, hy => by
    simp only [PlGs] at h
    rcases List.mem_cons.1 hy with rfl | hy
    · exact h.1
    · exact PlGs_mem h.2 y hy
theorem cmpPl_ne : ∀ {a b : List GV} {i : Nat} {x y : GV}, (∀ j u v, j < i → a[j]? = some u → b[j]? = some v → cmpP u v = 0) → a[i]? = some x → b[i]? = some y → cmpP x y ≠ 0 → cmpPl a b = cmpP x y
  | x' :: r, y' :: q, 0, x, y, _, hx, hy, h => by
    simp only [List.getElem?_cons_zero, Option.some.injEq] at hx hy
    subst hx hy
    simp only [cmpPl, if_pos h]
  | x' :: r, y' :: q, i + 1, x, y, hall, hx, hy, h => by
    simp only [cmpPl]
    rw [if_neg (by rw [hall 0 x' y' (by omega) rfl rfl]; simp)]
    exact cmpPl_ne (i := i) (fun j u v hj hu hv => hall (j + 1) u v (by omega) (by simpa using hu) (by simpa using hv)) (by simpa using hx) (by simpa using hy) h
  | [], _, _, _, _, _, hx, _, _ => by simp at hx
  | _ :: _, [], _, _, _, _, _, hy, _ => by simp at hy
theorem cmpPl_end : ∀ {a b : List GV}, (∀ (j : Nat) (u v : GV), a[j]? = some u → b[j]? = some v → cmpP u v = 0) → cmpPl a b = cmpI a.length b.length
  | [], b, _ => by simp only [cmpPl]; rfl
  | _ :: _, [], _ => by simp only [cmpPl]; rfl
  | x :: r, y :: q, h => by
    simp only [cmpPl]
    rw [if_neg (by rw [h 0 x y rfl rfl]; simp), cmpPl_end (fun j u v hu hv => h (j + 1) u v (by simpa using hu) (by simpa using hv))]
    unfold cmpI
    simp
set_option maxHeartbeats 4000000 in
theorem sLists_p (l l' : List GV) (ih : ∀ a ∈ l, ∀ b ∈ l', PCall Tryz.prog 246 [qV a, qV b] (.val (.int .i64 (cmpP a b)))) : PCall Tryz.prog 259 [.sl 6 88 (pdVs l), .sl 6 88 (pdVs l')] (.val (.int .i64 (cmpPl l l'))) := by
  refine pcall_fits fun hfit => ?_
  have b1 := (hfit (.sl 6 88 (pdVs l)) (by simp)).sl.2.1
  rw [pdVs_len] at b1
  clear hfit
  have hll := pdVs_len l
  have hll' := pdVs_len l'
  have cI := sInts_p (((pdVs l).length : Nat) : Int) (((pdVs l').length : Nat) : Int)
  refine pcall_of_run Tryz.func259 rfl Tryz.ntmps259 rfl (fun X => ?_)
  repeat' (first
    | refine run_seq ?_
    | (refine k_pick rfl ?_; refine k_assignD rfl rfl ?_)
    | refine run_opsEnd ?_
    | refine run_region ?_
    | refine run_block ?_
    | fail)
  refine run_loopS (ι := { j : Nat // (j ≤ l.length ∧ j ≤ l'.length) ∧ ∀ i x y, i < j → l[i]? = some x → l'[i]? = some y → cmpP x y = 0 })
    (fun j => [(0, .dat (.sl 6 88 (pdVs l))), (1, .dat (.sl 6 88 (pdVs l'))), (5, .dat (.val (.int .i64 (j.1 : Nat))))])
    (fun _ => []) (fun j => l.length - j.1) ⟨0, ⟨Nat.zero_le _, Nat.zero_le _⟩, fun i _ _ h => absurd h (Nat.not_lt_zero i)⟩ id ?_ ?_
  · (refine ⟨?_, ?_, by rfl⟩ <;> repeat' (first | exact trivial | exact ALe.ptr rfl | exact ALe.own rfl | exact ALe.elt rfl | exact BLe.boxD _ _ | exact BLe.row rfl | exact BLe.res | exact BLe.dead rfl | exact ALe.dat (PLe.refl _) | exact CLe.nil | refine And.intro ?_ ?_ | refine ALe.iface ?_ | refine ALe.clo ?_ | refine CLe.cons ?_ ?_ | refine BLe.box ?_ | refine BLe.row ?_ | exact ALe.any _ | refine ALe.dat (PLe.of_eq ?_)))
  rintro ⟨j, ⟨hj, hj'⟩, hall⟩
  have hend : j = l.length ∨ j = l'.length → cmpPl l l' = cmpI (((pdVs l).length : Nat) : Int) (((pdVs l').length : Nat) : Int) := fun h => by
    rw [hll, hll']
    exact cmpPl_end (fun i u v hu hv => hall i u v (by
      have := (List.getElem?_eq_some_iff.1 hu).1
      have := (List.getElem?_eq_some_iff.1 hv).1
      omega) hu hv)
  by_cases hlt : j < l.length
  · have g1 : decide ((j : Int) < (((pdVs l).length : Nat) : Int)) = true := decide_eq_true (by omega)
    by_cases hlt' : j < l'.length
    · have g2 : decide ((j : Int) < (((pdVs l').length : Nat) : Int)) = true := decide_eq_true (by omega)
      obtain ⟨x, hx⟩ : ∃ x, l[j]? = some x := ⟨_, List.getElem?_eq_getElem hlt⟩
      obtain ⟨y, hy⟩ : ∃ y, l'[j]? = some y := ⟨_, List.getElem?_eq_getElem hlt'⟩
      have i1 : (pdVs l)[((j : Nat) : Int).toNat]? = some (qV x) := by rw [show qV x = pdV x from (pdV_eq x).symm]; exact pdVs_at hx
      have i2 : (pdVs l')[((j : Nat) : Int).toNat]? = some (qV y) := by rw [show qV y = pdV y from (pdV_eq y).symm]; exact pdVs_at hy
      have hC := ih x (List.mem_of_getElem? hx) y (List.mem_of_getElem? hy)
      by_cases hr : cmpP x y = 0
      · have g3 : decide (cmpP x y ≠ 0) = false := decide_eq_false (by simp [hr])
        repeat' (first
    | refine run_seq ?_
    | (refine k_pick rfl ?_; first | refine k_assignD rfl rfl ?_ | refine k_moveD rfl rfl ?_ | refine k_bin2B rfl rfl rfl rfl ?_ | refine k_pickT rfl rfl (by first | rfl | assumption) rfl ?_ | refine k_lenD rfl rfl ?_ | refine k_ariI rfl rfl rfl rfl (by first | omega | (dsimp only; omega)) ?_)
    | refine run_opsEnd ?_
    | refine run_region ?_
    | refine run_condT rfl (by first | rfl | assumption) ?_
    | refine run_condF rfl (by first | rfl | assumption) ?_
    | (refine k_guardY rfl rfl (by first | rfl | assumption) ?_; first | refine k_moveD rfl rfl ?_ | refine k_bin2B rfl rfl rfl rfl ?_ | refine k_lenD rfl rfl ?_)
    | refine run_block ?_
    | refine run_blkEnd ?_
    | refine run_skip ?_
    | refine run_drawC (by kernel_rfl) ?_
    | refine c_nil (And.intro (by kernel_rfl) ?_)
    | refine c_pick (d_indexAddrD rfl rfl rfl (by first | omega | (dsimp only; omega)) (by assumption)) ?_
    | refine c_pick (d_assignD rfl rfl) ?_
    | refine c_pick (d_moveD rfl rfl) ?_
    | refine c_pick (d_call rfl (by kernel_rfl) rfl (by first | exact hC)) ?_
    | refine c_pick (d_loadD rfl rfl (by first | rfl | (simp only [cellsD]; rfl))) ?_
    | fail)
        refine run_again ?_
        refine ⟨⟨j + 1, ⟨by omega, by omega⟩, fun i x' y' hi hx' hy' => ?_⟩, id, by simp only; omega, ?_⟩
        · by_cases e : i = j
          · subst e
            rw [hx] at hx'; rw [hy] at hy'
            cases hx'; cases hy'
            exact hr
          · exact hall i x' y' (by omega) hx' hy'
        (refine ⟨?_, ?_, by rfl⟩ <;> repeat' (first | exact trivial | exact ALe.ptr rfl | exact ALe.own rfl | exact ALe.elt rfl | exact BLe.boxD _ _ | exact BLe.row rfl | exact BLe.res | exact BLe.dead rfl | exact ALe.dat (PLe.refl _) | exact CLe.nil | refine And.intro ?_ ?_ | refine ALe.iface ?_ | refine ALe.clo ?_ | refine CLe.cons ?_ ?_ | refine BLe.box ?_ | refine BLe.row ?_ | exact ALe.any _ | refine ALe.dat (PLe.of_eq ?_)))
      · have g3 : decide (cmpP x y ≠ 0) = true := decide_eq_true hr
        rw [cmpPl_ne (fun i u v hi hu hv => hall i u v hi hu hv) hx hy hr]
        repeat' (first
    | refine run_seq ?_
    | (refine k_pick rfl ?_; first | refine k_assignD rfl rfl ?_ | refine k_moveD rfl rfl ?_ | refine k_bin2B rfl rfl rfl rfl ?_ | refine k_pickT rfl rfl (by first | rfl | assumption) rfl ?_ | refine k_lenD rfl rfl ?_)
    | refine run_opsEnd ?_
    | refine run_region ?_
    | refine run_condT rfl (by first | rfl | assumption) ?_
    | (refine k_guardY rfl rfl (by first | rfl | assumption) ?_; first | refine k_moveD rfl rfl ?_ | refine k_bin2B rfl rfl rfl rfl ?_ | refine k_lenD rfl rfl ?_)
    | refine run_block ?_
    | refine run_skip ?_
    | refine run_retOk (resOk_tmp rfl rfl ?_)
    | refine run_drawC (by kernel_rfl) ?_
    | refine c_nil (And.intro (by kernel_rfl) ?_)
    | refine c_pick (d_indexAddrD rfl rfl rfl (by first | omega | (dsimp only; omega)) (by assumption)) ?_
    | refine c_pick (d_assignD rfl rfl) ?_
    | refine c_pick (d_moveD rfl rfl) ?_
    | refine c_pick (d_call rfl (by kernel_rfl) rfl (by first | exact hC)) ?_
    | refine c_pick (d_loadD rfl rfl (by first | rfl | (simp only [cellsD]; rfl))) ?_
    | fail)
        all_goals exact PLe.refl _
    · have g2 : decide ((j : Int) < (((pdVs l').length : Nat) : Int)) = false := decide_eq_false (by omega)
      rw [hend (.inr (by omega))]
      repeat' (first
    | refine run_seq ?_
    | (refine k_pick rfl ?_; first | refine k_assignD rfl rfl ?_ | refine k_moveD rfl rfl ?_ | refine k_bin2B rfl rfl rfl rfl ?_ | refine k_pickT rfl rfl (by first | rfl | assumption) rfl ?_ | refine k_call rfl (by kernel_rfl) rfl (by first | exact cI) ?_ | refine k_lenD rfl rfl ?_)
    | refine run_opsEnd ?_
    | refine run_region ?_
    | refine run_condF rfl (by first | rfl | assumption) ?_
    | (refine k_guardY rfl rfl (by first | rfl | assumption) ?_; first | refine k_moveD rfl rfl ?_ | refine k_bin2B rfl rfl rfl rfl ?_ | refine k_lenD rfl rfl ?_)
    | refine run_exit rfl ?_
    | refine run_retOk (resOk_tmp rfl rfl ?_)
    | fail)
      all_goals exact PLe.refl _
  · have g1 : decide ((j : Int) < (((pdVs l).length : Nat) : Int)) = false := decide_eq_false (by omega)
    rw [hend (.inl (by omega))]
    repeat' (first
    | refine run_seq ?_
    | (refine k_pick rfl ?_; first | refine k_assignD rfl rfl ?_ | refine k_moveD rfl rfl ?_ | refine k_bin2B rfl rfl rfl rfl ?_ | refine k_pickF rfl rfl (by first | rfl | assumption) rfl ?_ | refine k_call rfl (by kernel_rfl) rfl (by first | exact cI) ?_ | refine k_lenD rfl rfl ?_)
    | refine run_opsEnd ?_
    | refine run_region ?_
    | refine run_condF rfl (by first | rfl | assumption) ?_
    | refine k_guardNT rfl rfl (by first | rfl | assumption) rfl ?_
    | refine run_exit rfl ?_
    | refine run_retOk (resOk_tmp rfl rfl ?_)
    | fail)
    all_goals exact PLe.refl _
theorem cmpPm_ne1 : ∀ {ks ks' : List ByteArray} {l l' : List GV} {i : Nat} {k k' : ByteArray}, ks.length ≤ l.length → ks'.length ≤ l'.length → (∀ j u v x y, j < i → ks[j]? = some u → ks'[j]? = some v → l[j]? = some x → l'[j]? = some y → cmpS u v = 0 ∧ cmpP x y = 0) → ks[i]? = some k → ks'[i]? = some k' → cmpS k k' ≠ 0 → cmpPm ks l ks' l' = cmpS k k'
  | _ :: ks, _ :: ks', _ :: l, _ :: l', 0, k, k', _, _, _, h1, h2, h => by
    simp only [List.getElem?_cons_zero, Option.some.injEq] at h1 h2
    subst h1 h2
    simp only [cmpPm, if_pos h]
  | a :: ks, b :: ks', x :: l, y :: l', i + 1, k, k', hl, hl', hall, h1, h2, h => by
    have h0 := hall 0 a b x y (by omega) rfl rfl rfl rfl
    simp only [cmpPm]
    rw [if_neg (by rw [h0.1]; simp), if_neg (by rw [h0.2]; simp)]
    exact cmpPm_ne1 (i := i) (by simpa using hl) (by simpa using hl') (fun j u v x y hj a1 a2 a3 a4 => hall (j + 1) u v x y (by omega) (by simpa using a1) (by simpa using a2) (by simpa using a3) (by simpa using a4)) (by simpa using h1) (by simpa using h2) h
  | [], _, _, _, _, _, _, _, _, _, h1, _, _ => by simp at h1
  | _ :: _, [], _, _, _, _, _, _, _, _, _, h2, _ => by simp at h2
  | _ :: _, _ :: _, [], _, _, _, _, hl, _, _, _, _, _ => by simp at hl
  | _ :: _, _ :: _, _ :: _, [], _, _, _, _, hl', _, _, _, _ => by simp at hl'
theorem cmpPm_ne2 : ∀ {ks ks' : List ByteArray} {l l' : List GV} {i : Nat} {k k' : ByteArray} {x y : GV}, ks.length ≤ l.length → ks'.length ≤ l'.length → (∀ j u v x y, j < i → ks[j]? = some u → ks'[j]? = some v → l[j]? = some x → l'[j]? = some y → cmpS u v = 0 ∧ cmpP x y = 0) → ks[i]? = some k → ks'[i]? = some k' → l[i]? = some x → l'[i]? = some y → cmpS k k' = 0 → cmpP x y ≠ 0 → cmpPm ks l ks' l' = cmpP x y
  | _ :: ks, _ :: ks', _ :: l, _ :: l', 0, k, k', x, y, _, _, _, h1, h2, h3, h4, h, h' => by
    simp only [List.getElem?_cons_zero, Option.some.injEq] at h1 h2 h3 h4
    subst h1 h2 h3 h4
    simp only [cmpPm]
    rw [if_neg (by rw [h]; simp), if_pos h']
  | a :: ks, b :: ks', x' :: l, y' :: l', i + 1, k, k', x, y, hl, hl', hall, h1, h2, h3, h4, h, h' => by
    have h0 := hall 0 a b x' y' (by omega) rfl rfl rfl rfl
    simp only [cmpPm]
    rw [if_neg (by rw [h0.1]; simp), if_neg (by rw [h0.2]; simp)]
    exact cmpPm_ne2 (i := i) (by simpa using hl) (by simpa using hl') (fun j u v x y hj a1 a2 a3 a4 => hall (j + 1) u v x y (by omega) (by simpa using a1) (by simpa using a2) (by simpa using a3) (by simpa using a4)) (by simpa using h1) (by simpa using h2) (by simpa using h3) (by simpa using h4) h h'
  | [], _, _, _, _, _, _, _, _, _, _, _, h1, _, _, _, _, _ => by simp at h1
  | _ :: _, [], _, _, _, _, _, _, _, _, _, _, _, h2, _, _, _, _ => by simp at h2
  | _ :: _, _ :: _, [], _, _, _, _, _, _, hl, _, _, _, _, _, _, _, _ => by simp at hl
  | _ :: _, _ :: _, _ :: _, [], _, _, _, _, _, _, hl', _, _, _, _, _, _, _ => by simp at hl'
theorem cmpPm_end : ∀ {ks ks' : List ByteArray} {l l' : List GV}, ks.length ≤ l.length → ks'.length ≤ l'.length → (∀ (j : Nat) (u v : ByteArray) (x y : GV), ks[j]? = some u → ks'[j]? = some v → l[j]? = some x → l'[j]? = some y → cmpS u v = 0 ∧ cmpP x y = 0) → cmpPm ks l ks' l' = cmpI ks.length ks'.length
  | [], ks', l, l', _, _, _ => by simp only [cmpPm]
  | _ :: _, [], l, l', _, _, _ => by cases l <;> simp only [cmpPm]
  | _ :: _, _ :: _, [], _, hl, _, _ => by simp at hl
  | _ :: _, _ :: _, _ :: _, [], _, hl', _ => by simp at hl'
  | a :: ks, b :: ks', x :: l, y :: l', hl, hl', hall => by
    have h0 := hall 0 a b x y rfl rfl rfl rfl
    simp only [cmpPm]
    rw [if_neg (by rw [h0.1]; simp), if_neg (by rw [h0.2]; simp), cmpPm_end (by simpa using hl) (by simpa using hl') (fun j u v x y a1 a2 a3 a4 => hall (j + 1) u v x y (by simpa using a1) (by simpa using a2) (by simpa using a3) (by simpa using a4))]
    unfold cmpI
    simp
end Go.Proofs.YtgmahieoiifpfaaGreat
end
section
set_option linter.unusedVariables false
namespace Go.Proofs.YtgmahieoiifpfaaGreat
open Go.RowKit
set_option linter.unusedSimpArgs false
theorem ordV_p (x : GV) : PCall Tryz.prog 93 [qV x] (.val (.bool (ordV x))) := by
  have := pcall_V1s (P := Tryz.prog) (f := 93) (x := x) (u := .bool (ordV x)) trivial (fun w v hv => (ord_any x).use w v hv)
  rw [pdV_eq] at this
  exact this
theorem number_p (x : GV) : PCall Tryz.prog 199 [qV x] (.val (.bool (isNum x))) := by
  have := pcall_V1s (P := Tryz.prog) (f := 199) (x := x) (u := .bool (isNum x)) trivial (fun w v hv => number_any x w v hv)
  rw [pdV_eq] at this
  exact this
theorem fits_f {x : GV} (h : Fits (qV x)) : (Lit.float .f64 x.f).wf = true := by
  obtain ⟨w, F, v, hv⟩ := h.aggAt 2 (d := .val (.float .f64 x.f)) rfl
  unfold Rep at hv
  exact hv.2
theorem asFloat_p (x : GV) : PCall Tryz.prog 200 [qV x] (.val (.float .f64 (asF x))) := by
  refine pcall_fits fun hf => ?_
  have hx := fits_f (hf _ (List.mem_singleton.2 rfl))
  have := pcall_V1s (P := Tryz.prog) (f := 200) (x := x) (u := .float .f64 (asF x)) (by
    show (Lit.float .f64 (asF x)).wf = true
    unfold asF
    split
    · exact floatOfInt_wf _ _
    · exact hx) (fun w v hv => asFloat_any x w v hv)
  rw [pdV_eq] at this
  exact this
theorem clean_p (x : GV) : PCall Tryz.prog 72 [qV x] (qV (cleanV x)) := clean_q x
mutual
/-- Two plain values are equal. -/
def eqP : GV → GV → Bool
  | .mk k n f s ks l, .mk k' n' f' s' ks' l' =>
    if (isNum (.mk k n f s ks l) && isNum (.mk k' n' f' s' ks' l')) = true then
      (if k = 2 ∧ k' = 2 then decide (n = n') else feq (asF (.mk k n f s ks l)) (asF (.mk k' n' f' s' ks' l')))
    else decide (k = k') && (decide (n = n') && (decide (s = s') && (decide (ks = ks') && eqPs l l')))
def eqPs : List GV → List GV → Bool
  | [], [] => true
  | x :: r, y :: q => eqP x y && eqPs r q
  | _, _ => false
end
theorem eqPs_len : ∀ {a b : List GV}, eqPs a b = true → a.length = b.length
  | [], [], _ => rfl
  | x :: r, y :: q, h => by
    unfold eqPs at h
    simp only [Bool.and_eq_true] at h
    simp [eqPs_len h.2]
  | [], _ :: _, h => by simp [eqPs] at h
  | _ :: _, [], h => by simp [eqPs] at h
theorem eqPs_true : ∀ {a b : List GV}, a.length = b.length → (∀ (i : Nat) (x y : GV), a[i]? = some x → b[i]? = some y → eqP x y = true) → eqPs a b = true
  | [], [], _, _ => by unfold eqPs; rfl
  | x :: r, y :: q, hl, h => by
    unfold eqPs
    rw [h 0 x y rfl rfl, eqPs_true (by simpa using hl) (fun i x y hx hy => h (i + 1) x y (by simpa using hx) (by simpa using hy))]
    rfl
  | [], _ :: _, hl, _ => by simp at hl
  | _ :: _, [], hl, _ => by simp at hl
theorem eqPs_false : ∀ {a b : List GV} {i : Nat} {x y : GV}, a[i]? = some x → b[i]? = some y → eqP x y = false → eqPs a b = false
  | x' :: r, y' :: q, 0, x, y, hx, hy, h => by
    simp only [List.getElem?_cons_zero, Option.some.injEq] at hx hy
    subst hx hy
    unfold eqPs
    rw [h]; rfl
  | x' :: r, y' :: q, i + 1, x, y, hx, hy, h => by
    unfold eqPs
    rw [eqPs_false (by simpa using hx) (by simpa using hy) h]
    simp
  | [], _, _, _, _, hx, _, _ => by simp at hx
  | _ :: _, [], _, _, _, _, hy, _ => by simp at hy
theorem eqPs_all {a b : List GV} (h : eqPs a b = true) (i : Nat) (x y : GV) (hx : a[i]? = some x) (hy : b[i]? = some y) : eqP x y = true := by
  cases e : eqP x y with
  | true => rfl
  | false => rw [eqPs_false hx hy e] at h; cases h
set_option maxHeartbeats 4000000 in
theorem eqP_num (x y : GV) (h : (isNum x && isNum y) = true) : PCall Tryz.prog 138 [qV x, qV y] (.val (.bool (eqP x y))) := by
  obtain ⟨k, n, f, s, ks, l⟩ := x
  obtain ⟨k', n', f', s', ks', l'⟩ := y
  have c1 := number_p (.mk k n f s ks l)
  have c2 := number_p (.mk k' n' f' s' ks' l')
  have c3 := asFloat_p (.mk k n f s ks l)
  have c4 := asFloat_p (.mk k' n' f' s' ks' l')
  have hn := h
  simp only [Bool.and_eq_true] at hn
  rw [hn.1] at c1
  rw [hn.2] at c2
  have e : eqP (.mk k n f s ks l) (.mk k' n' f' s' ks' l') = if k = 2 ∧ k' = 2 then decide (n = n') else feq (asF (.mk k n f s ks l)) (asF (.mk k' n' f' s' ks' l')) := by
    unfold eqP; rw [if_pos h]
  rw [e]
  clear e h hn
  generalize asF (.mk k n f s ks l) = A at *
  generalize asF (.mk k' n' f' s' ks' l') = B at *
  refine pcall_of_run Tryz.func138 rfl Tryz.ntmps138 rfl (fun X => ?_)
  by_cases hk : k = 2
  · have q1 : decide (k = 2) = true := by simpa using hk
    by_cases hk' : k' = 2
    · have q2 : decide (k' = 2) = true := by simpa using hk'
      rw [if_pos ⟨hk, hk'⟩]
      repeat' (first
    | refine run_seq ?_
    | (refine k_pick rfl ?_; first | refine k_assignD rfl rfl ?_ | refine k_moveD rfl rfl ?_ | refine k_fieldAddrB rfl rfl rfl ?_ | refine k_loadW rfl rfl rfl (by first | rfl | (simp only [cellsD]; rfl)) ?_ | refine k_loadBD rfl rfl rfl (by first | rfl | (simp only [cellsD]; rfl)) ?_ | refine k_bin2B rfl rfl rfl rfl ?_ | refine k_pickT rfl rfl (by first | rfl | assumption) rfl ?_ | refine k_boxW rfl rfl rfl (by first | rfl | (simp only [cellsD]; rfl)) ?_ | refine k_call rfl (by kernel_rfl) rfl (by first | exact c1 | exact c2 | exact c3 | exact c4) ?_)
    | refine run_opsEnd ?_
    | refine run_region ?_
    | refine run_condT rfl (by first | rfl | assumption) ?_
    | (refine k_guardY rfl rfl (by first | rfl | assumption) ?_; first | refine k_fieldAddrB rfl rfl rfl ?_ | refine k_loadW rfl rfl rfl (by first | rfl | (simp only [cellsD]; rfl)) ?_ | refine k_loadBD rfl rfl rfl (by first | rfl | (simp only [cellsD]; rfl)) ?_ | refine k_bin2B rfl rfl rfl rfl ?_ | refine k_call rfl (by kernel_rfl) rfl (by first | exact c1 | exact c2 | exact c3 | exact c4) ?_)
    | refine run_retOk (resOk_tmp rfl rfl ?_)
    | fail)
      all_goals exact PLe.refl _
    · have q2 : decide (k' = 2) = false := by simpa using hk'
      rw [if_neg (fun h => hk' h.2)]
      repeat' (first
    | refine run_seq ?_
    | (refine k_pick rfl ?_; first | refine k_assignD rfl rfl ?_ | refine k_moveD rfl rfl ?_ | refine k_fieldAddrB rfl rfl rfl ?_ | refine k_loadW rfl rfl rfl (by first | rfl | (simp only [cellsD]; rfl)) ?_ | refine k_loadBD rfl rfl rfl (by first | rfl | (simp only [cellsD]; rfl)) ?_ | refine k_bin2B rfl rfl rfl rfl ?_ | refine k_pickT rfl rfl (by first | rfl | assumption) rfl ?_ | refine k_boxW rfl rfl rfl (by first | rfl | (simp only [cellsD]; rfl)) ?_ | refine k_call rfl (by kernel_rfl) rfl (by first | exact c1 | exact c2 | exact c3 | exact c4) ?_)
    | refine run_opsEnd ?_
    | refine run_region ?_
    | refine run_condT rfl (by first | rfl | assumption) ?_
    | refine run_condF rfl (by first | rfl | assumption) ?_
    | (refine k_guardY rfl rfl (by first | rfl | assumption) ?_; first | refine k_fieldAddrB rfl rfl rfl ?_ | refine k_loadW rfl rfl rfl (by first | rfl | (simp only [cellsD]; rfl)) ?_ | refine k_loadBD rfl rfl rfl (by first | rfl | (simp only [cellsD]; rfl)) ?_ | refine k_bin2B rfl rfl rfl rfl ?_ | refine k_call rfl (by kernel_rfl) rfl (by first | exact c1 | exact c2 | exact c3 | exact c4) ?_)
    | refine run_skip ?_
    | refine run_retOk (resOk_tmp rfl rfl ?_)
    | refine run_drawC (by kernel_rfl) ?_
    | refine c_nil (And.intro (by kernel_rfl) ?_)
    | refine c_pick (d_assignD rfl rfl) ?_
    | refine c_pick (d_loadW rfl rfl rfl (by first | rfl | (simp only [cellsD]; rfl))) ?_
    | refine c_pick (d_call rfl (by kernel_rfl) rfl (by first | exact c1 | exact c2 | exact c3 | exact c4)) ?_
    | refine c_pick (d_fltC rfl rfl rfl rfl) ?_
    | fail)
      all_goals exact PLe.refl _
  · have q1 : decide (k = 2) = false := by simpa using hk
    rw [if_neg (fun h => hk h.1)]
    repeat' (first
    | refine run_seq ?_
    | (refine k_pick rfl ?_; first | refine k_assignD rfl rfl ?_ | refine k_moveD rfl rfl ?_ | refine k_fieldAddrB rfl rfl rfl ?_ | refine k_loadW rfl rfl rfl (by first | rfl | (simp only [cellsD]; rfl)) ?_ | refine k_loadBD rfl rfl rfl (by first | rfl | (simp only [cellsD]; rfl)) ?_ | refine k_bin2B rfl rfl rfl rfl ?_ | refine k_pickT rfl rfl (by first | rfl | assumption) rfl ?_ | refine k_pickF rfl rfl (by first | rfl | assumption) rfl ?_ | refine k_boxW rfl rfl rfl (by first | rfl | (simp only [cellsD]; rfl)) ?_ | refine k_call rfl (by kernel_rfl) rfl (by first | exact c1 | exact c2 | exact c3 | exact c4) ?_)
    | refine run_opsEnd ?_
    | refine run_region ?_
    | refine run_condT rfl (by first | rfl | assumption) ?_
    | refine run_condF rfl (by first | rfl | assumption) ?_
    | (refine k_guardY rfl rfl (by first | rfl | assumption) ?_; first | refine k_loadW rfl rfl rfl (by first | rfl | (simp only [cellsD]; rfl)) ?_ | refine k_call rfl (by kernel_rfl) rfl (by first | exact c1 | exact c2 | exact c3 | exact c4) ?_)
    | refine k_guardNT rfl rfl (by first | rfl | assumption) rfl ?_
    | refine run_skip ?_
    | refine run_retOk (resOk_tmp rfl rfl ?_)
    | refine run_drawC (by kernel_rfl) ?_
    | refine c_nil (And.intro (by kernel_rfl) ?_)
    | refine c_pick (d_assignD rfl rfl) ?_
    | refine c_pick (d_loadW rfl rfl rfl (by first | rfl | (simp only [cellsD]; rfl))) ?_
    | refine c_pick (d_call rfl (by kernel_rfl) rfl (by first | exact c1 | exact c2 | exact c3 | exact c4)) ?_
    | refine c_pick (d_fltC rfl rfl rfl rfl) ?_
    | fail)
    all_goals exact PLe.refl _
set_option maxHeartbeats 8000000 in
theorem eqP_oth (x y : GV) (h : (isNum x && isNum y) = false) (ih : ∀ a ∈ x.l, ∀ b ∈ y.l, PCall Tryz.prog 138 [qV a, qV b] (.val (.bool (eqP a b)))) : PCall Tryz.prog 138 [qV x, qV y] (.val (.bool (eqP x y))) := by
  obtain ⟨k, n, f, s, ks, l⟩ := x
  obtain ⟨k', n', f', s', ks', l'⟩ := y
  refine pcall_fits fun hfit => ?_
  have b1 := (Fits.aggAt (hfit (qV (.mk k n f s ks l)) (by simp)) 4 (d := .sl 1 16 (pdS ks)) rfl).sl.2.1
  have b2 := (Fits.aggAt (hfit (qV (.mk k n f s ks l)) (by simp)) 5 (d := .sl 6 88 (pdVs l)) rfl).sl.2.1
  rw [pdS_len] at b1
  rw [pdVs_len] at b2
  clear hfit
  have c1 := number_p (.mk k n f s ks l)
  have c2 := number_p (.mk k' n' f' s' ks' l')
  have e : eqP (.mk k n f s ks l) (.mk k' n' f' s' ks' l') = (decide (k = k') && (decide (n = n') && (decide (s = s') && (decide (ks = ks') && eqPs l l')))) := by
    unfold eqP; rw [if_neg (by rw [h]; simp)]
  rw [e]
  clear e
  have ih : ∀ a ∈ l, ∀ b ∈ l', PCall Tryz.prog 138 [qV a, qV b] (.val (.bool (eqP a b))) := ih
  generalize isNum (.mk k n f s ks l) = p1 at *
  generalize isNum (.mk k' n' f' s' ks' l') = p2 at *
  have hlk := pdS_len ks
  have hlk' := pdS_len ks'
  have hll := pdVs_len l
  have hll' := pdVs_len l'
  refine pcall_of_run Tryz.func138 rfl Tryz.ntmps138 rfl (fun X => ?_)
  by_cases e1 : k = k'
  rotate_left
  · have q1 : decide (k ≠ k') = true := by simpa using e1
    rw [show decide (k = k') = false by simpa using e1, Bool.false_and]
    cases p1 <;> cases p2 <;> first | cases h | skip
    all_goals
      repeat' (first
    | refine run_seq ?_
    | (refine k_pick rfl ?_; first | refine k_assignD rfl rfl ?_ | refine k_moveD rfl rfl ?_ | refine k_fieldAddrB rfl rfl rfl ?_ | refine k_loadW rfl rfl rfl (by first | rfl | (simp only [cellsD]; rfl)) ?_ | refine k_loadBD rfl rfl rfl (by first | rfl | (simp only [cellsD]; rfl)) ?_ | refine k_bin2B rfl rfl rfl rfl ?_ | refine k_pickT rfl rfl (by first | rfl | assumption) rfl ?_ | refine k_pickF rfl rfl (by first | rfl | assumption) rfl ?_ | refine k_boxW rfl rfl rfl (by first | rfl | (simp only [cellsD]; rfl)) ?_ | refine k_call rfl (by kernel_rfl) rfl (by first | exact c1 | exact c2) ?_)
    | refine run_opsEnd ?_
    | refine run_region ?_
    | refine run_condT rfl (by first | rfl | assumption) ?_
    | refine run_condF rfl (by first | rfl | assumption) ?_
    | (refine k_guardY rfl rfl (by first | rfl | assumption) ?_; first | refine k_loadW rfl rfl rfl (by first | rfl | (simp only [cellsD]; rfl)) ?_ | refine k_call rfl (by kernel_rfl) rfl (by first | exact c1 | exact c2) ?_)
    | refine k_guardNT rfl rfl (by first | rfl | assumption) rfl ?_
    | refine k_guardNF rfl rfl (by first | rfl | assumption) rfl ?_
    | refine run_skip ?_
    | refine run_retOk (resOk_tmp rfl rfl ?_)
    | fail)
    all_goals exact PLe.refl _
  have q1 : decide (k ≠ k') = false := by simpa using e1
  rw [show decide (k = k') = true by simpa using e1, Bool.true_and]
  by_cases e2 : n = n'
  rotate_left
  · have q2 : decide (n ≠ n') = true := by simpa using e2
    rw [show decide (n = n') = false by simpa using e2, Bool.false_and]
    cases p1 <;> cases p2 <;> first | cases h | skip
    all_goals
      repeat' (first
    | refine run_seq ?_
    | (refine k_pick rfl ?_; first | refine k_assignD rfl rfl ?_ | refine k_moveD rfl rfl ?_ | refine k_fieldAddrB rfl rfl rfl ?_ | refine k_loadW rfl rfl rfl (by first | rfl | (simp only [cellsD]; rfl)) ?_ | refine k_loadBD rfl rfl rfl (by first | rfl | (simp only [cellsD]; rfl)) ?_ | refine k_bin2B rfl rfl rfl rfl ?_ | refine k_pickT rfl rfl (by first | rfl | assumption) rfl ?_ | refine k_pickF rfl rfl (by first | rfl | assumption) rfl ?_ | refine k_boxW rfl rfl rfl (by first | rfl | (simp only [cellsD]; rfl)) ?_ | refine k_call rfl (by kernel_rfl) rfl (by first | exact c1 | exact c2) ?_)
    | refine run_opsEnd ?_
    | refine run_region ?_
    | refine run_condT rfl (by first | rfl | assumption) ?_
    | refine run_condF rfl (by first | rfl | assumption) ?_
    | (refine k_guardY rfl rfl (by first | rfl | assumption) ?_; first | refine k_fieldAddrB rfl rfl rfl ?_ | refine k_loadW rfl rfl rfl (by first | rfl | (simp only [cellsD]; rfl)) ?_ | refine k_loadBD rfl rfl rfl (by first | rfl | (simp only [cellsD]; rfl)) ?_ | refine k_bin2B rfl rfl rfl rfl ?_ | refine k_call rfl (by kernel_rfl) rfl (by first | exact c1 | exact c2) ?_)
    | refine k_guardNT rfl rfl (by first | rfl | assumption) rfl ?_
    | refine k_guardNF rfl rfl (by first | rfl | assumption) rfl ?_
    | refine run_skip ?_
    | refine run_retOk (resOk_tmp rfl rfl ?_)
    | fail)
    all_goals exact PLe.refl _
  have q2 : decide (n ≠ n') = false := by simpa using e2
  rw [show decide (n = n') = true by simpa using e2, Bool.true_and]
  by_cases e3 : s = s'
  rotate_left
  · have q3 : decide (s ≠ s') = true := by simpa using e3
    rw [show decide (s = s') = false by simpa using e3, Bool.false_and]
    cases p1 <;> cases p2 <;> first | cases h | skip
    all_goals
      repeat' (first
    | refine run_seq ?_
    | (refine k_pick rfl ?_; first | refine k_assignD rfl rfl ?_ | refine k_moveD rfl rfl ?_ | refine k_fieldAddrB rfl rfl rfl ?_ | refine k_loadW rfl rfl rfl (by first | rfl | (simp only [cellsD]; rfl)) ?_ | refine k_loadBD rfl rfl rfl (by first | rfl | (simp only [cellsD]; rfl)) ?_ | refine k_bin2B rfl rfl rfl rfl ?_ | refine k_pickT rfl rfl (by first | rfl | assumption) rfl ?_ | refine k_pickF rfl rfl (by first | rfl | assumption) rfl ?_ | refine k_boxW rfl rfl rfl (by first | rfl | (simp only [cellsD]; rfl)) ?_ | refine k_call rfl (by kernel_rfl) rfl (by first | exact c1 | exact c2) ?_)
    | refine run_opsEnd ?_
    | refine run_region ?_
    | refine run_condT rfl (by first | rfl | assumption) ?_
    | refine run_condF rfl (by first | rfl | assumption) ?_
    | (refine k_guardY rfl rfl (by first | rfl | assumption) ?_; first | refine k_fieldAddrB rfl rfl rfl ?_ | refine k_loadW rfl rfl rfl (by first | rfl | (simp only [cellsD]; rfl)) ?_ | refine k_loadBD rfl rfl rfl (by first | rfl | (simp only [cellsD]; rfl)) ?_ | refine k_bin2B rfl rfl rfl rfl ?_ | refine k_call rfl (by kernel_rfl) rfl (by first | exact c1 | exact c2) ?_)
    | refine k_guardNT rfl rfl (by first | rfl | assumption) rfl ?_
    | refine run_skip ?_
    | refine run_retOk (resOk_tmp rfl rfl ?_)
    | fail)
    all_goals exact PLe.refl _
  have q3 : decide (s ≠ s') = false := by simpa using e3
  rw [show decide (s = s') = true by simpa using e3, Bool.true_and]
  by_cases e4 : ks.length = ks'.length
  rotate_left
  · have q4 : decide ((((pdS ks).length : Nat) : Int) ≠ (((pdS ks').length : Nat) : Int)) = true := by rw [hlk, hlk']; simp; omega
    rw [show decide (ks = ks') = false by
      simp only [decide_eq_false_iff_not]; exact fun h => e4 (by rw [h]), Bool.false_and]
    cases p1 <;> cases p2 <;> first | cases h | skip
    all_goals
      repeat' (first
    | refine run_seq ?_
    | (refine k_pick rfl ?_; first | refine k_assignD rfl rfl ?_ | refine k_moveD rfl rfl ?_ | refine k_fieldAddrB rfl rfl rfl ?_ | refine k_loadW rfl rfl rfl (by first | rfl | (simp only [cellsD]; rfl)) ?_ | refine k_loadBD rfl rfl rfl (by first | rfl | (simp only [cellsD]; rfl)) ?_ | refine k_bin2B rfl rfl rfl rfl ?_ | refine k_pickT rfl rfl (by first | rfl | assumption) rfl ?_ | refine k_pickF rfl rfl (by first | rfl | assumption) rfl ?_ | refine k_boxW rfl rfl rfl (by first | rfl | (simp only [cellsD]; rfl)) ?_ | refine k_call rfl (by kernel_rfl) rfl (by first | exact c1 | exact c2) ?_ | refine k_lenD rfl rfl ?_)
    | refine run_opsEnd ?_
    | refine run_region ?_
    | refine run_condT rfl (by first | rfl | assumption) ?_
    | refine run_condF rfl (by first | rfl | assumption) ?_
    | (refine k_guardY rfl rfl (by first | rfl | assumption) ?_; first | refine k_fieldAddrB rfl rfl rfl ?_ | refine k_loadW rfl rfl rfl (by first | rfl | (simp only [cellsD]; rfl)) ?_ | refine k_loadBD rfl rfl rfl (by first | rfl | (simp only [cellsD]; rfl)) ?_ | refine k_bin2B rfl rfl rfl rfl ?_ | refine k_call rfl (by kernel_rfl) rfl (by first | exact c1 | exact c2) ?_)
    | refine k_guardNT rfl rfl (by first | rfl | assumption) rfl ?_
    | refine k_guardNF rfl rfl (by first | rfl | assumption) rfl ?_
    | refine run_skip ?_
    | refine run_retOk (resOk_tmp rfl rfl ?_)
    | fail)
    all_goals exact PLe.refl _
  have q4 : decide ((((pdS ks).length : Nat) : Int) ≠ (((pdS ks').length : Nat) : Int)) = false := by rw [hlk, hlk']; simp; omega
  by_cases e5 : l.length = l'.length
  rotate_left
  · have q5 : decide ((((pdVs l).length : Nat) : Int) ≠ (((pdVs l').length : Nat) : Int)) = true := by rw [hll, hll']; simp; omega
    rw [show eqPs l l' = false by
      cases h : eqPs l l' with
      | false => rfl
      | true => exact absurd (eqPs_len h) e5, Bool.and_false]
    cases p1 <;> cases p2 <;> first | cases h | skip
    all_goals
      repeat' (first
    | refine run_seq ?_
    | (refine k_pick rfl ?_; first | refine k_assignD rfl rfl ?_ | refine k_moveD rfl rfl ?_ | refine k_fieldAddrB rfl rfl rfl ?_ | refine k_loadW rfl rfl rfl (by first | rfl | (simp only [cellsD]; rfl)) ?_ | refine k_loadBD rfl rfl rfl (by first | rfl | (simp only [cellsD]; rfl)) ?_ | refine k_bin2B rfl rfl rfl rfl ?_ | refine k_pickT rfl rfl (by first | rfl | assumption) rfl ?_ | refine k_pickF rfl rfl (by first | rfl | assumption) rfl ?_ | refine k_boxW rfl rfl rfl (by first | rfl | (simp only [cellsD]; rfl)) ?_ | refine k_call rfl (by kernel_rfl) rfl (by first | exact c1 | exact c2) ?_ | refine k_lenD rfl rfl ?_)
    | refine run_opsEnd ?_
    | refine run_region ?_
    | refine run_condT rfl (by first | rfl | assumption) ?_
    | refine run_condF rfl (by first | rfl | assumption) ?_
    | (refine k_guardY rfl rfl (by first | rfl | assumption) ?_; first | refine k_fieldAddrB rfl rfl rfl ?_ | refine k_loadW rfl rfl rfl (by first | rfl | (simp only [cellsD]; rfl)) ?_ | refine k_loadBD rfl rfl rfl (by first | rfl | (simp only [cellsD]; rfl)) ?_ | refine k_bin2B rfl rfl rfl rfl ?_ | refine k_call rfl (by kernel_rfl) rfl (by first | exact c1 | exact c2) ?_ | refine k_lenD rfl rfl ?_)
    | refine k_guardNT rfl rfl (by first | rfl | assumption) rfl ?_
    | refine run_skip ?_
    | refine run_retOk (resOk_tmp rfl rfl ?_)
    | fail)
    all_goals exact PLe.refl _
  have q5 : decide ((((pdVs l).length : Nat) : Int) ≠ (((pdVs l').length : Nat) : Int)) = false := by rw [hll, hll']; simp; omega
  refine run_weaken (s' := startSta [qV (.mk k n f s ks l), qV (.mk k' n' f' s' ks' l')]) (fun _ _ h => h) ?_
  cases p1 <;> cases p2 <;> first | cases h | skip
  all_goals
    repeat' (first
    | refine run_seq ?_
    | (refine k_pick rfl ?_; first | refine k_assignD rfl rfl ?_ | refine k_moveD rfl rfl ?_ | refine k_fieldAddrB rfl rfl rfl ?_ | refine k_loadW rfl rfl rfl (by first | rfl | (simp only [cellsD]; rfl)) ?_ | refine k_loadBD rfl rfl rfl (by first | rfl | (simp only [cellsD]; rfl)) ?_ | refine k_bin2B rfl rfl rfl rfl ?_ | refine k_pickT rfl rfl (by first | rfl | assumption) rfl ?_ | refine k_pickF rfl rfl (by first | rfl | assumption) rfl ?_ | refine k_boxW rfl rfl rfl (by first | rfl | (simp only [cellsD]; rfl)) ?_ | refine k_call rfl (by kernel_rfl) rfl (by first | exact c1 | exact c2) ?_ | refine k_lenD rfl rfl ?_)
    | refine run_opsEnd ?_
    | refine run_region ?_
    | refine run_condF rfl (by first | rfl | assumption) ?_
    | (refine k_guardY rfl rfl (by first | rfl | assumption) ?_; first | refine k_fieldAddrB rfl rfl rfl ?_ | refine k_loadW rfl rfl rfl (by first | rfl | (simp only [cellsD]; rfl)) ?_ | refine k_loadBD rfl rfl rfl (by first | rfl | (simp only [cellsD]; rfl)) ?_ | refine k_bin2B rfl rfl rfl rfl ?_ | refine k_call rfl (by kernel_rfl) rfl (by first | exact c1 | exact c2) ?_ | refine k_lenD rfl rfl ?_)
    | refine k_guardNT rfl rfl (by first | rfl | assumption) rfl ?_
    | refine run_block ?_
    | refine run_skip ?_
    | fail)
    refine run_loopS (ι := { j : Nat // j ≤ ks.length ∧ ∀ i, i < j → ks[i]? = ks'[i]? })
      (fun j => [(2, .ptr 2 0), (3, .ptr 3 0), (68, .dat (.val (.int .i64 ((pdS ks).length : Nat)))), (69, .dat (.val (.int .i64 (j.1 : Nat))))])
      (fun j => [(2, .box 27 (cellsD (qV (.mk k n f s ks l)))), (3, .box 27 (cellsD (qV (.mk k' n' f' s' ks' l'))))]) (fun j => ks.length - j.1) ⟨0, Nat.zero_le _, fun i h => absurd h (Nat.not_lt_zero i)⟩ id ?_ ?_
    · (refine ⟨?_, ?_, by rfl⟩ <;> repeat' (first | exact trivial | exact ALe.ptr rfl | exact ALe.own rfl | exact ALe.elt rfl | exact BLe.boxD _ _ | exact BLe.row rfl | exact BLe.res | exact BLe.dead rfl | exact ALe.dat (PLe.refl _) | exact CLe.nil | refine And.intro ?_ ?_ | refine ALe.iface ?_ | refine ALe.clo ?_ | refine CLe.cons ?_ ?_ | refine BLe.box ?_ | refine BLe.row ?_ | exact ALe.any _ | refine ALe.dat (PLe.of_eq ?_)))
    rintro ⟨j, hj, hall⟩
    by_cases hlt : j < ks.length
    · have hc : decide ((j : Int) < (((pdS ks).length : Nat) : Int)) = true := by rw [hlk]; simpa using hlt
      obtain ⟨x, hx⟩ : ∃ x, ks[j]? = some x := ⟨_, List.getElem?_eq_getElem hlt⟩
      obtain ⟨y, hy⟩ : ∃ y, ks'[j]? = some y := ⟨_, List.getElem?_eq_getElem (e4 ▸ hlt)⟩
      have i1 : (pdS ks)[((j : Nat) : Int).toNat]? = some (.val (.string x)) := pdS_at hx
      have i2 : (pdS ks')[((j : Nat) : Int).toNat]? = some (.val (.string y)) := pdS_at hy
      by_cases exy : x = y
      · have q6 : decide (x ≠ y) = false := by simpa using exy
        repeat' (first
    | refine run_seq ?_
    | (refine k_pick rfl ?_; first | refine k_assignD rfl rfl ?_ | refine k_moveD rfl rfl ?_ | refine k_bin2B rfl rfl rfl rfl ?_ | refine k_ariI rfl rfl rfl rfl (by first | omega | (dsimp only; omega)) ?_)
    | refine run_opsEnd ?_
    | refine run_region ?_
    | refine run_condT rfl (by first | rfl | assumption) ?_
    | refine run_condF rfl (by first | rfl | assumption) ?_
    | refine run_block ?_
    | refine run_blkEnd ?_
    | refine run_skip ?_
    | refine run_drawC (by kernel_rfl) ?_
    | refine c_nil (And.intro (by kernel_rfl) ?_)
    | refine c_pick (d_indexAddrD rfl rfl rfl (by first | omega | (dsimp only; omega)) (by assumption)) ?_
    | refine c_pick (d_moveD rfl rfl) ?_
    | refine c_pick (d_fieldAddrB rfl rfl rfl) ?_
    | refine c_pick (d_loadBD rfl rfl rfl (by first | rfl | (simp only [cellsD]; rfl))) ?_
    | refine c_pick (d_bin2B rfl rfl rfl rfl) ?_
    | refine c_pick (d_loadD rfl rfl (by first | rfl | (simp only [cellsD]; rfl))) ?_
    | fail)
        refine run_again ?_
        refine ⟨⟨j + 1, by omega, fun i hi => ?_⟩, id, by simp only; omega, ?_⟩
        · by_cases e : i = j
          · subst e; rw [hx, hy, exy]
          · exact hall i (by omega)
        (refine ⟨?_, ?_, by rfl⟩ <;> repeat' (first | exact trivial | exact ALe.ptr rfl | exact ALe.own rfl | exact ALe.elt rfl | exact BLe.boxD _ _ | exact BLe.row rfl | exact BLe.res | exact BLe.dead rfl | exact ALe.dat (PLe.refl _) | exact CLe.nil | refine And.intro ?_ ?_ | refine ALe.iface ?_ | refine ALe.clo ?_ | refine CLe.cons ?_ ?_ | refine BLe.box ?_ | refine BLe.row ?_ | exact ALe.any _ | refine ALe.dat (PLe.of_eq ?_)))
      · have q6 : decide (x ≠ y) = true := by simpa using exy
        rw [show decide (ks = ks') = false by
          simp only [decide_eq_false_iff_not]
          intro h; rw [h] at hx; rw [hx] at hy; exact exy (Option.some.inj hy), Bool.false_and]
        repeat' (first
    | refine run_seq ?_
    | (refine k_pick rfl ?_; first | refine k_assignD rfl rfl ?_ | refine k_moveD rfl rfl ?_ | refine k_bin2B rfl rfl rfl rfl ?_)
    | refine run_opsEnd ?_
    | refine run_region ?_
    | refine run_condT rfl (by first | rfl | assumption) ?_
    | refine run_block ?_
    | refine run_skip ?_
    | refine run_retOk (resOk_tmp rfl rfl ?_)
    | refine run_drawC (by kernel_rfl) ?_
    | refine c_nil (And.intro (by kernel_rfl) ?_)
    | refine c_pick (d_indexAddrD rfl rfl rfl (by first | omega | (dsimp only; omega)) (by assumption)) ?_
    | refine c_pick (d_moveD rfl rfl) ?_
    | refine c_pick (d_fieldAddrB rfl rfl rfl) ?_
    | refine c_pick (d_loadBD rfl rfl rfl (by first | rfl | (simp only [cellsD]; rfl))) ?_
    | refine c_pick (d_bin2B rfl rfl rfl rfl) ?_
    | refine c_pick (d_loadD rfl rfl (by first | rfl | (simp only [cellsD]; rfl))) ?_
    | fail)
        all_goals exact PLe.refl _
    · have hc : decide ((j : Int) < (((pdS ks).length : Nat) : Int)) = false := by rw [hlk]; simpa using hlt
      have ek : ks = ks' := by
        apply List.ext_getElem? 
        intro i
        by_cases hi : i < ks.length
        · exact hall i (by omega)
        · rw [List.getElem?_eq_none (by omega), List.getElem?_eq_none (by omega)]
      rw [show decide (ks = ks') = true by simpa using ek, Bool.true_and]
      repeat' (first
    | refine run_seq ?_
    | (refine k_pick rfl ?_; first | refine k_moveD rfl rfl ?_ | refine k_fieldAddrB rfl rfl rfl ?_ | refine k_loadBD rfl rfl rfl (by first | rfl | (simp only [cellsD]; rfl)) ?_ | refine k_bin2B rfl rfl rfl rfl ?_ | refine k_lenD rfl rfl ?_)
    | refine run_opsEnd ?_
    | refine run_region ?_
    | refine run_condF rfl (by first | rfl | assumption) ?_
    | refine run_block ?_
    | refine run_exit rfl ?_
    | fail)
      refine run_loopS (ι := { j : Nat // j ≤ l.length ∧ ∀ i x y, i < j → l[i]? = some x → l'[i]? = some y → eqP x y = true })
        (fun j => [(2, .ptr 2 0), (3, .ptr 3 0), (86, .dat (.val (.int .i64 ((pdVs l).length : Nat)))), (87, .dat (.val (.int .i64 (j.1 : Nat))))])
        (fun j => [(2, .box 27 (cellsD (qV (.mk k n f s ks l)))), (3, .box 27 (cellsD (qV (.mk k' n' f' s' ks' l'))))]) (fun j => l.length - j.1) ⟨0, Nat.zero_le _, fun i _ _ h => absurd h (Nat.not_lt_zero i)⟩ id ?_ ?_
      · (refine ⟨?_, ?_, by rfl⟩ <;> repeat' (first | exact trivial | exact ALe.ptr rfl | exact ALe.own rfl | exact ALe.elt rfl | exact BLe.boxD _ _ | exact BLe.row rfl | exact BLe.res | exact BLe.dead rfl | exact ALe.dat (PLe.refl _) | exact CLe.nil | refine And.intro ?_ ?_ | refine ALe.iface ?_ | refine ALe.clo ?_ | refine CLe.cons ?_ ?_ | refine BLe.box ?_ | refine BLe.row ?_ | exact ALe.any _ | refine ALe.dat (PLe.of_eq ?_)))
      clear hall hj hc hlt
      rintro ⟨j, hj, hall⟩
      by_cases hlt : j < l.length
      · have hc : decide ((j : Int) < (((pdVs l).length : Nat) : Int)) = true := by rw [hll]; simpa using hlt
        obtain ⟨x, hx⟩ : ∃ x, l[j]? = some x := ⟨_, List.getElem?_eq_getElem hlt⟩
        obtain ⟨y, hy⟩ : ∃ y, l'[j]? = some y := ⟨_, List.getElem?_eq_getElem (e5 ▸ hlt)⟩
        have i1 : (pdVs l)[((j : Nat) : Int).toNat]? = some (qV x) := by rw [show qV x = pdV x from (pdV_eq x).symm]; exact pdVs_at hx
        have i2 : (pdVs l')[((j : Nat) : Int).toNat]? = some (qV y) := by rw [show qV y = pdV y from (pdV_eq y).symm]; exact pdVs_at hy
        have hC := ih x (List.mem_of_getElem? hx) y (List.mem_of_getElem? hy)
        cases hr : eqP x y with
        | true =>
          rw [hr] at hC
          repeat' (first
    | refine run_seq ?_
    | (refine k_pick rfl ?_; first | refine k_assignD rfl rfl ?_ | refine k_moveD rfl rfl ?_ | refine k_bin2B rfl rfl rfl rfl ?_ | refine k_ariI rfl rfl rfl rfl (by first | omega | (dsimp only; omega)) ?_)
    | refine run_opsEnd ?_
    | refine run_region ?_
    | refine run_condT rfl (by first | rfl | assumption) ?_
    | refine run_condF rfl (by first | rfl | assumption) ?_
    | refine run_block ?_
    | refine run_blkEnd ?_
    | refine run_skip ?_
    | refine run_drawC (by kernel_rfl) ?_
    | refine c_nil (And.intro (by kernel_rfl) ?_)
    | refine c_pick (d_indexAddrD rfl rfl rfl (by first | omega | (dsimp only; omega)) (by assumption)) ?_
    | refine c_pick (d_moveD rfl rfl) ?_
    | refine c_pick (d_fieldAddrB rfl rfl rfl) ?_
    | refine c_pick (d_loadBD rfl rfl rfl (by first | rfl | (simp only [cellsD]; rfl))) ?_
    | refine c_pick (d_call rfl (by kernel_rfl) rfl (by first | exact hC)) ?_
    | refine c_pick (d_not rfl rfl) ?_
    | refine c_pick (d_loadD rfl rfl (by first | rfl | (simp only [cellsD]; rfl))) ?_
    | fail)
          refine run_again ?_
          refine ⟨⟨j + 1, by omega, fun i x' y' hi hx' hy' => ?_⟩, id, by simp only; omega, ?_⟩
          · by_cases e : i = j
            · subst e
              rw [hx] at hx'; rw [hy] at hy'
              cases hx'; cases hy'
              exact hr
            · exact hall i x' y' (by omega) hx' hy'
          (refine ⟨?_, ?_, by rfl⟩ <;> repeat' (first | exact trivial | exact ALe.ptr rfl | exact ALe.own rfl | exact ALe.elt rfl | exact BLe.boxD _ _ | exact BLe.row rfl | exact BLe.res | exact BLe.dead rfl | exact ALe.dat (PLe.refl _) | exact CLe.nil | refine And.intro ?_ ?_ | refine ALe.iface ?_ | refine ALe.clo ?_ | refine CLe.cons ?_ ?_ | refine BLe.box ?_ | refine BLe.row ?_ | exact ALe.any _ | refine ALe.dat (PLe.of_eq ?_)))
        | false =>
          rw [hr] at hC
          rw [eqPs_false hx hy hr]
          repeat' (first
    | refine run_seq ?_
    | (refine k_pick rfl ?_; first | refine k_assignD rfl rfl ?_ | refine k_moveD rfl rfl ?_ | refine k_bin2B rfl rfl rfl rfl ?_)
    | refine run_opsEnd ?_
    | refine run_region ?_
    | refine run_condT rfl (by first | rfl | assumption) ?_
    | refine run_block ?_
    | refine run_skip ?_
    | refine run_retOk (resOk_tmp rfl rfl ?_)
    | refine run_drawC (by kernel_rfl) ?_
    | refine c_nil (And.intro (by kernel_rfl) ?_)
    | refine c_pick (d_indexAddrD rfl rfl rfl (by first | omega | (dsimp only; omega)) (by assumption)) ?_
    | refine c_pick (d_moveD rfl rfl) ?_
    | refine c_pick (d_fieldAddrB rfl rfl rfl) ?_
    | refine c_pick (d_loadBD rfl rfl rfl (by first | rfl | (simp only [cellsD]; rfl))) ?_
    | refine c_pick (d_call rfl (by kernel_rfl) rfl (by first | exact hC)) ?_
    | refine c_pick (d_not rfl rfl) ?_
    | refine c_pick (d_loadD rfl rfl (by first | rfl | (simp only [cellsD]; rfl))) ?_
    | fail)
          all_goals exact PLe.refl _
      · have hc : decide ((j : Int) < (((pdVs l).length : Nat) : Int)) = false := by rw [hll]; simpa using hlt
        rw [eqPs_true e5 (fun i x y hx hy => hall i x y (by have := (List.getElem?_eq_some_iff.1 hx).1; omega) hx hy)]
        repeat' (first
    | refine run_seq ?_
    | (refine k_pick rfl ?_; first | refine k_assignD rfl rfl ?_ | refine k_bin2B rfl rfl rfl rfl ?_)
    | refine run_opsEnd ?_
    | refine run_region ?_
    | refine run_condF rfl (by first | rfl | assumption) ?_
    | refine run_exit rfl ?_
    | refine run_retOk (resOk_tmp rfl rfl ?_)
    | fail)
        all_goals exact PLe.refl _
theorem eqP_p : ∀ (x y : GV), PCall Tryz.prog 138 [qV x, qV y] (.val (.bool (eqP x y)))
  | .mk k n f s ks l, y => by
    cases h : isNum (.mk k n f s ks l) && isNum y with
    | true => exact eqP_num _ _ h
    | false => exact eqP_oth _ _ h (fun a ha b _ => eqP_p a b)
termination_by x => SizeOf.sizeOf x
decreasing_by
  simp_wf
  have ha : a ∈ l := ha
  have := List.sizeOf_lt_of_mem ha
  omega
theorem eqSpec_p (x y : GV) : PCall Tryz.prog 75 [qV x, qV y] (.val (.bool (eqP (cleanV x) (cleanV y)))) := by
  have c1 := clean_p x
  have c2 := clean_p y
  have c3 := eqP_p (cleanV x) (cleanV y)
  refine pcall_of_run Tryz.func75 rfl Tryz.ntmps75 rfl (fun X => ?_)
  repeat' (first
    | refine run_seq ?_
    | (refine k_pick rfl ?_; first | refine k_assignD rfl rfl ?_ | refine k_boxW rfl rfl rfl (by first | rfl | (simp only [cellsD]; rfl)) ?_)
    | refine run_opsEnd ?_
    | refine run_region ?_
    | refine run_retOk (resOk_tmp rfl rfl ?_)
    | refine run_drawC (by kernel_rfl) ?_
    | refine c_nil (And.intro (by kernel_rfl) ?_)
    | refine c_pick (d_assignD rfl rfl) ?_
    | refine c_pick (d_loadW rfl rfl rfl (by first | rfl | (simp only [cellsD]; rfl))) ?_
    | refine c_pick (d_call rfl (by kernel_rfl) rfl (by first | exact c1 | exact c2 | exact c3)) ?_
    | fail)
  all_goals exact PLe.refl _
end Go.Proofs.YtgmahieoiifpfaaGreat
end
