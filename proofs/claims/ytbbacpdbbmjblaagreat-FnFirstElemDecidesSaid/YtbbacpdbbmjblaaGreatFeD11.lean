/- Part 11 of what the proof rests on. -/
import Derived.ProofKit
import Derived.SizedLaws
import Derived.Test.YtbbacpdbbmjblaaGreatFeD3
import Derived.Test.YtbbacpdbbmjblaaGreatFeD5
import Derived.Test.YtbbacpdbbmjblaaGreatFeD6
import Derived.Test.YtbbacpdbbmjblaaGreatFeD7
import Derived.Test.YtbbacpdbbmjblaaGreatFeD9
import Derived.Test.YtbbacpdbbmjblaaGreatFeD10
section
set_option linter.unusedVariables false
namespace Go.Proofs.YtbbacpdbbmjblaaGreat
open Go.RowKit
set_option linter.unusedSimpArgs false
section
variable {P : Program} {X : Base} {N : Nat} {Q : Exit → Act → World → Prop} {ops : Array Oper} {rem : List Nat} {ks : List Itm} {s s' : Sta}
/-- min(n, m) -/
theorem op_minN {o : Oper} (hd : dstOk X.N o.dst = true) {x y : Operand} {ts : Array TypeId} (ho : o.op = .call { callee := .builtin .min, args := #[x, y], argTypes := ts }) {p q : Nat} (hx : s.ev x = .dat (.val (.int .i64 ((p : Nat) : Int)))) (hy : s.ev y = .dat (.val (.int .i64 ((q : Nat) : Int)))) :
    OpS P X o s (s.put o.dst (.dat (.val (.int .i64 ((min p q : Nat) : Int))))) := by
  refine opS_value hd fun a w ρ hc => ⟨.int .i64 ((min p q : Nat) : Int), ?_, ?_⟩
  · have h1 := hc.ev x
    have h2 := hc.ev y
    rw [hx] at h1
    rw [hy] at h2
    unfold VR Rep at h1 h2
    have e : (if (q : Int) < (p : Int) then (q : Int) else (p : Int)) = ((min p q : Nat) : Int) := by split <;> omega
    simp only [execOp, ho, resolve, invoke, builtin, h1.1, h2.1, List.map_toArray, List.map_cons, List.map_nil, Sem.run_bind, Sem.run_pure, Result.andThen_ok, run_min_int2, e]
  · unfold VR Rep
    refine ⟨rfl, ?_⟩
    have h1 := hc.ev x
    have h2 := hc.ev y
    rw [hx] at h1
    rw [hy] at h2
    unfold VR Rep at h1 h2
    have : min p q = p ∨ min p q = q := by omega
    rcases this with h | h <;> rw [h]
    · exact h1.2
    · exact h2.2
theorem k_minN {d p q : Nat} {x y : Operand} {ts : Array TypeId} (hN : Nat.blt d N = true) (hx : s.ev x = .dat (.val (.int .i64 ((p : Nat) : Int)))) (hy : s.ev y = .dat (.val (.int .i64 ((q : Nat) : Int)))) (h : Run P X N Q (.ops ops rem :: ks) (s.put (some d) (.dat (.val (.int .i64 ((min p q : Nat) : Int)))))) :
    RunK P X N Q ops rem ks (some d) (.call { callee := .builtin .min, args := #[x, y], argTypes := ts }) s := k_of hN (fun _ _ _ hd => op_minN hd rfl hx hy) h
theorem d_minN {ops : List Oper} {d p q : Nat} {x y : Operand} {ts : Array TypeId} (hN : Nat.blt d N = true) (hx : s.ev x = .dat (.val (.int .i64 ((p : Nat) : Int)))) (hy : s.ev y = .dat (.val (.int .i64 ((q : Nat) : Int)))) :
    TrK P X N ops (some d) (.call { callee := .builtin .min, args := #[x, y], argTypes := ts }) (Eff.put (some d) (.dat (.val (.int .i64 ((min p q : Nat) : Int))))) s (s.put (some d) (.dat (.val (.int .i64 ((min p q : Nat) : Int))))) := act_val hN fun s' _ _ _ _ hd hev htb => op_minN hd rfl ((hev x (by simp [Op.operands, Call.operands])).trans hx) ((hev y (by simp [Op.operands, Call.operands])).trans hy)
end
theorem elemRank_p (x : EV) : PCall Tryz.prog 48 [pdE x] (.val (.int .i64 (rkE x))) := by
  obtain ⟨k, s, ks, l, v, n⟩ := x
  unfold pdE rkE
  simp only
  refine pcall_of_run Tryz.func48 rfl Tryz.ntmps48 rfl (fun X => ?_)
  by_cases h1 : k = 1
  · have g1 : decide (k = 1) = true := decide_eq_true h1
    rw [if_pos h1]
    repeat' (first
    | refine run_seq ?_
    | (refine k_pick rfl ?_; first | refine k_assignD rfl rfl ?_ | refine k_moveD rfl rfl ?_ | refine k_fieldAddrB rfl rfl rfl ?_ | refine k_loadBD rfl rfl rfl (by first | rfl | (simp only [cellsD]; rfl)) ?_ | refine k_bin2B rfl rfl rfl rfl ?_ | refine k_pickT rfl rfl (by first | rfl | assumption) rfl ?_ | refine k_boxW rfl rfl rfl (by first | rfl | (simp only [cellsD]; rfl)) ?_)
    | refine run_opsEnd ?_
    | refine run_region ?_
    | refine run_condT rfl (by first | rfl | assumption) ?_
    | refine k_guardNF rfl rfl (by first | rfl | assumption) rfl ?_
    | refine run_retOk (resOk_tmp rfl rfl ?_)
    | fail)
    all_goals exact PLe.of_eq (by rw [h1])
  have g1 : decide (k = 1) = false := decide_eq_false h1
  rw [if_neg h1]
  by_cases h2 : k = 2
  · have g2 : decide (k = 2) = true := decide_eq_true h2
    rw [if_pos h2]
    repeat' (first
    | refine run_seq ?_
    | (refine k_pick rfl ?_; first | refine k_assignD rfl rfl ?_ | refine k_moveD rfl rfl ?_ | refine k_fieldAddrB rfl rfl rfl ?_ | refine k_loadBD rfl rfl rfl (by first | rfl | (simp only [cellsD]; rfl)) ?_ | refine k_bin2B rfl rfl rfl rfl ?_ | refine k_pickT rfl rfl (by first | rfl | assumption) rfl ?_ | refine k_pickF rfl rfl (by first | rfl | assumption) rfl ?_ | refine k_boxW rfl rfl rfl (by first | rfl | (simp only [cellsD]; rfl)) ?_)
    | refine run_opsEnd ?_
    | refine run_region ?_
    | refine run_condT rfl (by first | rfl | assumption) ?_
    | (refine k_guardY rfl rfl (by first | rfl | assumption) ?_; first | refine k_fieldAddrB rfl rfl rfl ?_ | refine k_loadBD rfl rfl rfl (by first | rfl | (simp only [cellsD]; rfl)) ?_ | refine k_bin2B rfl rfl rfl rfl ?_)
    | refine k_guardNF rfl rfl (by first | rfl | assumption) rfl ?_
    | refine run_retOk (resOk_tmp rfl rfl ?_)
    | fail)
    all_goals exact PLe.of_eq (by rw [h2])
  have g2 : decide (k = 2) = false := decide_eq_false h2
  rw [if_neg h2]
  by_cases h3 : k = 3
  · have g3 : decide (k = 3) = true := decide_eq_true h3
    rw [if_pos h3]
    repeat' (first
    | refine run_seq ?_
    | (refine k_pick rfl ?_; first | refine k_assignD rfl rfl ?_ | refine k_moveD rfl rfl ?_ | refine k_fieldAddrB rfl rfl rfl ?_ | refine k_loadBD rfl rfl rfl (by first | rfl | (simp only [cellsD]; rfl)) ?_ | refine k_bin2B rfl rfl rfl rfl ?_ | refine k_pickF rfl rfl (by first | rfl | assumption) rfl ?_ | refine k_boxW rfl rfl rfl (by first | rfl | (simp only [cellsD]; rfl)) ?_)
    | refine run_opsEnd ?_
    | refine run_region ?_
    | refine run_condT rfl (by first | rfl | assumption) ?_
    | (refine k_guardY rfl rfl (by first | rfl | assumption) ?_; first | refine k_fieldAddrB rfl rfl rfl ?_ | refine k_loadBD rfl rfl rfl (by first | rfl | (simp only [cellsD]; rfl)) ?_ | refine k_bin2B rfl rfl rfl rfl ?_)
    | refine run_retOk (resOk_tmp rfl rfl ?_)
    | fail)
    all_goals exact PLe.of_eq (by rw [h3])
  have g3 : decide (k = 3) = false := decide_eq_false h3
  rw [if_neg h3]
  repeat' (first
    | refine run_seq ?_
    | (refine k_pick rfl ?_; first | refine k_assignD rfl rfl ?_ | refine k_moveD rfl rfl ?_ | refine k_fieldAddrB rfl rfl rfl ?_ | refine k_loadBD rfl rfl rfl (by first | rfl | (simp only [cellsD]; rfl)) ?_ | refine k_bin2B rfl rfl rfl rfl ?_ | refine k_pickF rfl rfl (by first | rfl | assumption) rfl ?_ | refine k_boxW rfl rfl rfl (by first | rfl | (simp only [cellsD]; rfl)) ?_)
    | refine run_opsEnd ?_
    | refine run_region ?_
    | refine run_condF rfl (by first | rfl | assumption) ?_
    | (refine k_guardY rfl rfl (by first | rfl | assumption) ?_; first | refine k_fieldAddrB rfl rfl rfl ?_ | refine k_loadBD rfl rfl rfl (by first | rfl | (simp only [cellsD]; rfl)) ?_ | refine k_bin2B rfl rfl rfl rfl ?_)
    | refine run_skip ?_
    | refine run_retOk (resOk_tmp rfl rfl ?_)
    | fail)
  all_goals exact PLe.refl _
theorem kvE_at {x : EV} {i : Nat} {k : ByteArray} {v : GV} (h1 : x.keys[i]? = some k) (h2 : x.l[i]? = some v) : (kvE x)[i]? = some (k, v) := by
  unfold kvE
  rw [List.getElem?_zip_eq_some]
  exact ⟨h1, h2⟩
theorem kvE_len (x : EV) : (kvE x).length = min x.keys.length x.l.length := by unfold kvE; exact List.length_zip
theorem pdS_i {ks : List ByteArray} {j : Nat} {x : ByteArray} (h : ks[j]? = some x) : (pdS ks)[((j : Nat) : Int).toNat]? = some (.val (.string x)) := pdS_at h
theorem pdVs_i {l : List GV} {j : Nat} {x : GV} (h : l[j]? = some x) : (pdVs l)[((j : Nat) : Int).toNat]? = some (qV x) := by
  rw [show qV x = pdV x from (pdV_eq x).symm]
  exact pdVs_at h
set_option maxHeartbeats 16000000 in
theorem cmpKeys_p (x y : EV) : PCall Tryz.prog 54 [pdE x, pdE y] (.val (.int .i64 (cmpLx cmpKv (kvE x) (kvE y)))) := by
  refine pcall_fits fun hfit => ?_
  have b1 := (Fits.aggAt (hfit (pdE x) (by simp)) 2 (d := .sl 1 16 (pdS x.keys)) rfl).sl.2.1
  rw [pdS_len] at b1
  clear hfit
  have n1 := pdS_len x.keys
  have n2 := pdVs_len x.l
  have n3 := pdS_len y.keys
  have n4 := pdVs_len y.l
  have m1 := kvE_len x
  have m2 := kvE_len y
  have c0 := sInts_p (((kvE x).length : Nat) : Int) (((kvE y).length : Nat) : Int)
  have ez1 : ((min (pdS x.keys).length (pdVs x.l).length : Nat) : Int) = (((kvE x).length : Nat) : Int) := by omega
  have ez2 : ((min (pdS y.keys).length (pdVs y.l).length : Nat) : Int) = (((kvE y).length : Nat) : Int) := by omega
  rw [← ez1, ← ez2] at c0
  refine pcall_of_run Tryz.func54 rfl Tryz.ntmps54 rfl (fun X => ?_)
  repeat' (first
    | refine run_seq ?_
    | (refine k_pick rfl ?_; first | refine k_assignD rfl rfl ?_ | refine k_boxW rfl rfl rfl (by first | rfl | (simp only [pdE, cellsD]; rfl)) ?_)
    | refine run_opsEnd ?_
    | refine run_region ?_
    | refine run_block ?_
    | fail)
  refine run_loopS (ι := { j : Nat // (j ≤ (kvE x).length ∧ j ≤ (kvE y).length) ∧ ∀ i f g, i < j → (kvE x)[i]? = some f → (kvE y)[i]? = some g → cmpKv f g = 0 })
    (fun j => [(2, .ptr 2 0), (3, .ptr 3 0), (5, .dat (.val (.int .i64 (j.1 : Nat))))])
    (fun j => [(2, .box 29 (cellsD (pdE x))), (3, .box 29 (cellsD (pdE y)))]) (fun j => (kvE x).length - j.1) ⟨0, ⟨Nat.zero_le _, Nat.zero_le _⟩, fun i _ _ h => absurd h (Nat.not_lt_zero i)⟩ id ?_ ?_
  · (refine ⟨?_, ?_, by rfl⟩ <;> repeat' (first | exact trivial | exact ALe.ptr rfl | exact ALe.own rfl | exact ALe.elt rfl | exact BLe.boxD _ _ | exact BLe.row rfl | exact BLe.res | exact BLe.dead rfl | exact ALe.dat (PLe.refl _) | exact CLe.nil | refine And.intro ?_ ?_ | refine ALe.iface ?_ | refine ALe.clo ?_ | refine CLe.cons ?_ ?_ | refine BLe.box ?_ | refine BLe.row ?_ | exact ALe.any _ | refine ALe.dat (PLe.of_eq ?_)))
  rintro ⟨j, ⟨hj, hj'⟩, hall⟩
  have hend : j = (kvE x).length ∨ j = (kvE y).length → cmpLx cmpKv (kvE x) (kvE y) = cmpI (((kvE x).length : Nat) : Int) (((kvE y).length : Nat) : Int) := fun h => cmpLx_end hj hj' hall h
  rw [← ez1, ← ez2] at hend
  by_cases h1 : j < x.keys.length
  rotate_left
  · have g1 : decide ((j : Int) < (((pdS x.keys).length : Nat) : Int)) = false := decide_eq_false (by omega)
    rw [hend (by omega)]
    repeat' (first
    | refine run_seq ?_
    | (refine k_pick rfl ?_; first | refine k_minN rfl rfl rfl ?_ | refine k_assignD rfl rfl ?_ | refine k_moveD rfl rfl ?_ | refine k_fieldAddrB rfl rfl rfl ?_ | refine k_loadBD rfl rfl rfl (by first | rfl | (simp only [pdE, cellsD]; rfl)) ?_ | refine k_bin2B rfl rfl rfl rfl ?_ | refine k_pickF rfl rfl (by first | rfl | assumption) rfl ?_ | refine k_call rfl (by kernel_rfl) rfl (by first | exact c0 | (simp only [← pdE]; exact c0)) ?_ | refine k_lenD rfl rfl ?_)
    | refine run_opsEnd ?_
    | refine run_region ?_
    | refine run_condF rfl (by first | rfl | assumption) ?_
    | refine k_guardNT rfl rfl (by first | rfl | assumption) rfl ?_
    | refine run_exit rfl ?_
    | refine run_retOk (resOk_tmp rfl rfl ?_)
    | fail)
    all_goals exact PLe.refl _
  have g1 : decide ((j : Int) < (((pdS x.keys).length : Nat) : Int)) = true := decide_eq_true (by omega)
  by_cases h2 : j < x.l.length
  rotate_left
  · have g2 : decide ((j : Int) < (((pdVs x.l).length : Nat) : Int)) = false := decide_eq_false (by omega)
    rw [hend (by omega)]
    repeat' (first
    | refine run_seq ?_
    | (refine k_pick rfl ?_; first | refine k_minN rfl rfl rfl ?_ | refine k_assignD rfl rfl ?_ | refine k_moveD rfl rfl ?_ | refine k_fieldAddrB rfl rfl rfl ?_ | refine k_loadBD rfl rfl rfl (by first | rfl | (simp only [pdE, cellsD]; rfl)) ?_ | refine k_bin2B rfl rfl rfl rfl ?_ | refine k_pickT rfl rfl (by first | rfl | assumption) rfl ?_ | refine k_pickF rfl rfl (by first | rfl | assumption) rfl ?_ | refine k_call rfl (by kernel_rfl) rfl (by first | exact c0 | (simp only [← pdE]; exact c0)) ?_ | refine k_lenD rfl rfl ?_)
    | refine run_opsEnd ?_
    | refine run_region ?_
    | refine run_condF rfl (by first | rfl | assumption) ?_
    | (refine k_guardY rfl rfl (by first | rfl | assumption) ?_; first | refine k_moveD rfl rfl ?_ | refine k_fieldAddrB rfl rfl rfl ?_ | refine k_loadBD rfl rfl rfl (by first | rfl | (simp only [pdE, cellsD]; rfl)) ?_ | refine k_bin2B rfl rfl rfl rfl ?_ | refine k_lenD rfl rfl ?_)
    | refine k_guardNT rfl rfl (by first | rfl | assumption) rfl ?_
    | refine run_exit rfl ?_
    | refine run_retOk (resOk_tmp rfl rfl ?_)
    | fail)
    all_goals exact PLe.refl _
  have g2 : decide ((j : Int) < (((pdVs x.l).length : Nat) : Int)) = true := decide_eq_true (by omega)
  by_cases h3 : j < y.keys.length
  rotate_left
  · have g3 : decide ((j : Int) < (((pdS y.keys).length : Nat) : Int)) = false := decide_eq_false (by omega)
    rw [hend (by omega)]
    repeat' (first
    | refine run_seq ?_
    | (refine k_pick rfl ?_; first | refine k_minN rfl rfl rfl ?_ | refine k_assignD rfl rfl ?_ | refine k_moveD rfl rfl ?_ | refine k_fieldAddrB rfl rfl rfl ?_ | refine k_loadBD rfl rfl rfl (by first | rfl | (simp only [pdE, cellsD]; rfl)) ?_ | refine k_bin2B rfl rfl rfl rfl ?_ | refine k_pickT rfl rfl (by first | rfl | assumption) rfl ?_ | refine k_pickF rfl rfl (by first | rfl | assumption) rfl ?_ | refine k_call rfl (by kernel_rfl) rfl (by first | exact c0 | (simp only [← pdE]; exact c0)) ?_ | refine k_lenD rfl rfl ?_)
    | refine run_opsEnd ?_
    | refine run_region ?_
    | refine run_condF rfl (by first | rfl | assumption) ?_
    | (refine k_guardY rfl rfl (by first | rfl | assumption) ?_; first | refine k_moveD rfl rfl ?_ | refine k_fieldAddrB rfl rfl rfl ?_ | refine k_loadBD rfl rfl rfl (by first | rfl | (simp only [pdE, cellsD]; rfl)) ?_ | refine k_bin2B rfl rfl rfl rfl ?_ | refine k_lenD rfl rfl ?_)
    | refine k_guardNT rfl rfl (by first | rfl | assumption) rfl ?_
    | refine run_exit rfl ?_
    | refine run_retOk (resOk_tmp rfl rfl ?_)
    | fail)
    all_goals exact PLe.refl _
  have g3 : decide ((j : Int) < (((pdS y.keys).length : Nat) : Int)) = true := decide_eq_true (by omega)
  by_cases h4 : j < y.l.length
  rotate_left
  · have g4 : decide ((j : Int) < (((pdVs y.l).length : Nat) : Int)) = false := decide_eq_false (by omega)
    rw [hend (by omega)]
    repeat' (first
    | refine run_seq ?_
    | (refine k_pick rfl ?_; first | refine k_minN rfl rfl rfl ?_ | refine k_assignD rfl rfl ?_ | refine k_moveD rfl rfl ?_ | refine k_fieldAddrB rfl rfl rfl ?_ | refine k_loadBD rfl rfl rfl (by first | rfl | (simp only [pdE, cellsD]; rfl)) ?_ | refine k_bin2B rfl rfl rfl rfl ?_ | refine k_pickT rfl rfl (by first | rfl | assumption) rfl ?_ | refine k_call rfl (by kernel_rfl) rfl (by first | exact c0 | (simp only [← pdE]; exact c0)) ?_ | refine k_lenD rfl rfl ?_)
    | refine run_opsEnd ?_
    | refine run_region ?_
    | refine run_condF rfl (by first | rfl | assumption) ?_
    | (refine k_guardY rfl rfl (by first | rfl | assumption) ?_; first | refine k_moveD rfl rfl ?_ | refine k_fieldAddrB rfl rfl rfl ?_ | refine k_loadBD rfl rfl rfl (by first | rfl | (simp only [pdE, cellsD]; rfl)) ?_ | refine k_bin2B rfl rfl rfl rfl ?_ | refine k_lenD rfl rfl ?_)
    | refine run_exit rfl ?_
    | refine run_retOk (resOk_tmp rfl rfl ?_)
    | fail)
    all_goals exact PLe.refl _
  have g4 : decide ((j : Int) < (((pdVs y.l).length : Nat) : Int)) = true := decide_eq_true (by omega)
  obtain ⟨f1, hf1⟩ : ∃ u, x.keys[j]? = some u := ⟨_, List.getElem?_eq_getElem h1⟩
  obtain ⟨f2, hf2⟩ : ∃ u, x.l[j]? = some u := ⟨_, List.getElem?_eq_getElem h2⟩
  obtain ⟨u1, hu1⟩ : ∃ u, y.keys[j]? = some u := ⟨_, List.getElem?_eq_getElem h3⟩
  obtain ⟨u2, hu2⟩ : ∃ u, y.l[j]? = some u := ⟨_, List.getElem?_eq_getElem h4⟩
  have i1 := pdS_i hf1
  have i2 := pdVs_i hf2
  have i3 := pdS_i hu1
  have i4 := pdVs_i hu2
  have c1 := sStrs_p f1 u1
  have c2 := sCmpVals_p f2 u2
  have hx := kvE_at hf1 hf2
  have hy := kvE_at hu1 hu2
  by_cases hs : cmpS f1 u1 = 0
  · have g5 : decide (cmpS f1 u1 ≠ 0) = false := decide_eq_false (by simp [hs])
    by_cases hv : cmpP (cleanV f2) (cleanV u2) = 0
    · have g6 : decide (cmpP (cleanV f2) (cleanV u2) ≠ 0) = false := decide_eq_false (by simp [hv])
      repeat' (first
    | refine run_seq ?_
    | (refine k_pick rfl ?_; first | refine k_assignD rfl rfl ?_ | refine k_moveD rfl rfl ?_ | refine k_fieldAddrB rfl rfl rfl ?_ | refine k_loadBD rfl rfl rfl (by first | rfl | (simp only [pdE, cellsD]; rfl)) ?_ | refine k_bin2B rfl rfl rfl rfl ?_ | refine k_pickT rfl rfl (by first | rfl | assumption) rfl ?_ | refine k_lenD rfl rfl ?_ | refine k_ariI rfl rfl rfl rfl (by first | omega | (dsimp only; omega)) ?_)
    | refine run_opsEnd ?_
    | refine run_region ?_
    | refine run_condT rfl (by first | rfl | assumption) ?_
    | refine run_condF rfl (by first | rfl | assumption) ?_
    | (refine k_guardY rfl rfl (by first | rfl | assumption) ?_; first | refine k_moveD rfl rfl ?_ | refine k_fieldAddrB rfl rfl rfl ?_ | refine k_loadBD rfl rfl rfl (by first | rfl | (simp only [pdE, cellsD]; rfl)) ?_ | refine k_bin2B rfl rfl rfl rfl ?_ | refine k_lenD rfl rfl ?_)
    | refine run_block ?_
    | refine run_blkEnd ?_
    | refine run_skip ?_
    | refine run_drawC (by kernel_rfl) ?_
    | refine c_nil (And.intro (by kernel_rfl) ?_)
    | refine c_pick (d_indexAddrD rfl rfl rfl (by first | omega | (dsimp only; omega)) (by assumption)) ?_
    | refine c_pick (d_assignD rfl rfl) ?_
    | refine c_pick (d_moveD rfl rfl) ?_
    | refine c_pick (d_fieldAddrB rfl rfl rfl) ?_
    | refine c_pick (d_loadBD rfl rfl rfl (by first | rfl | (simp only [pdE, cellsD]; rfl))) ?_
    | refine c_pick (d_call rfl (by kernel_rfl) rfl (by first | exact c0 | (simp only [← pdE]; exact c0) | exact c1 | (simp only [← pdE]; exact c1) | exact c2 | (simp only [← pdE]; exact c2))) ?_
    | refine c_pick (d_loadD rfl rfl (by first | rfl | (simp only [pdE, cellsD]; rfl))) ?_
    | fail)
      refine run_again ?_
      refine ⟨⟨j + 1, ⟨by omega, by omega⟩, fun i f g hi hf hg => ?_⟩, id, by simp only; omega, ?_⟩
      · by_cases e : i = j
        · subst e
          rw [hx] at hf; rw [hy] at hg
          cases hf; cases hg
          unfold cmpKv
          rw [lx_zero hs, hv]
        · exact hall i f g (by omega) hf hg
      (refine ⟨?_, ?_, by rfl⟩ <;> repeat' (first | exact trivial | exact ALe.ptr rfl | exact ALe.own rfl | exact ALe.elt rfl | exact BLe.boxD _ _ | exact BLe.row rfl | exact BLe.res | exact BLe.dead rfl | exact ALe.dat (PLe.refl _) | exact CLe.nil | refine And.intro ?_ ?_ | refine ALe.iface ?_ | refine ALe.clo ?_ | refine CLe.cons ?_ ?_ | refine BLe.box ?_ | refine BLe.row ?_ | exact ALe.any _ | refine ALe.dat (PLe.of_eq ?_)))
    · have g6 : decide (cmpP (cleanV f2) (cleanV u2) ≠ 0) = true := decide_eq_true hv
      have e : cmpKv (f1, f2) (u1, u2) = cmpP (cleanV f2) (cleanV u2) := by unfold cmpKv; rw [lx_zero hs]
      rw [cmpLx_at hall hx hy (by rw [e]; exact hv), e]
      repeat' (first
    | refine run_seq ?_
    | (refine k_pick rfl ?_; first | refine k_assignD rfl rfl ?_ | refine k_moveD rfl rfl ?_ | refine k_fieldAddrB rfl rfl rfl ?_ | refine k_loadBD rfl rfl rfl (by first | rfl | (simp only [pdE, cellsD]; rfl)) ?_ | refine k_bin2B rfl rfl rfl rfl ?_ | refine k_pickT rfl rfl (by first | rfl | assumption) rfl ?_ | refine k_lenD rfl rfl ?_)
    | refine run_opsEnd ?_
    | refine run_region ?_
    | refine run_condT rfl (by first | rfl | assumption) ?_
    | refine run_condF rfl (by first | rfl | assumption) ?_
    | (refine k_guardY rfl rfl (by first | rfl | assumption) ?_; first | refine k_moveD rfl rfl ?_ | refine k_fieldAddrB rfl rfl rfl ?_ | refine k_loadBD rfl rfl rfl (by first | rfl | (simp only [pdE, cellsD]; rfl)) ?_ | refine k_bin2B rfl rfl rfl rfl ?_ | refine k_lenD rfl rfl ?_)
    | refine run_block ?_
    | refine run_skip ?_
    | refine run_retOk (resOk_tmp rfl rfl ?_)
    | refine run_drawC (by kernel_rfl) ?_
    | refine c_nil (And.intro (by kernel_rfl) ?_)
    | refine c_pick (d_indexAddrD rfl rfl rfl (by first | omega | (dsimp only; omega)) (by assumption)) ?_
    | refine c_pick (d_assignD rfl rfl) ?_
    | refine c_pick (d_moveD rfl rfl) ?_
    | refine c_pick (d_fieldAddrB rfl rfl rfl) ?_
    | refine c_pick (d_loadBD rfl rfl rfl (by first | rfl | (simp only [pdE, cellsD]; rfl))) ?_
    | refine c_pick (d_call rfl (by kernel_rfl) rfl (by first | exact c0 | (simp only [← pdE]; exact c0) | exact c1 | (simp only [← pdE]; exact c1) | exact c2 | (simp only [← pdE]; exact c2))) ?_
    | refine c_pick (d_loadD rfl rfl (by first | rfl | (simp only [pdE, cellsD]; rfl))) ?_
    | fail)
      all_goals exact PLe.refl _
  · have g5 : decide (cmpS f1 u1 ≠ 0) = true := decide_eq_true hs
    have e : cmpKv (f1, f2) (u1, u2) = cmpS f1 u1 := by unfold cmpKv; rw [lx_pos hs]
    rw [cmpLx_at hall hx hy (by rw [e]; exact hs), e]
    repeat' (first
    | refine run_seq ?_
    | (refine k_pick rfl ?_; first | refine k_assignD rfl rfl ?_ | refine k_moveD rfl rfl ?_ | refine k_fieldAddrB rfl rfl rfl ?_ | refine k_loadBD rfl rfl rfl (by first | rfl | (simp only [pdE, cellsD]; rfl)) ?_ | refine k_bin2B rfl rfl rfl rfl ?_ | refine k_pickT rfl rfl (by first | rfl | assumption) rfl ?_ | refine k_lenD rfl rfl ?_)
    | refine run_opsEnd ?_
    | refine run_region ?_
    | refine run_condT rfl (by first | rfl | assumption) ?_
    | (refine k_guardY rfl rfl (by first | rfl | assumption) ?_; first | refine k_moveD rfl rfl ?_ | refine k_fieldAddrB rfl rfl rfl ?_ | refine k_loadBD rfl rfl rfl (by first | rfl | (simp only [pdE, cellsD]; rfl)) ?_ | refine k_bin2B rfl rfl rfl rfl ?_ | refine k_lenD rfl rfl ?_)
    | refine run_block ?_
    | refine run_skip ?_
    | refine run_retOk (resOk_tmp rfl rfl ?_)
    | refine run_drawC (by kernel_rfl) ?_
    | refine c_nil (And.intro (by kernel_rfl) ?_)
    | refine c_pick (d_indexAddrD rfl rfl rfl (by first | omega | (dsimp only; omega)) (by assumption)) ?_
    | refine c_pick (d_assignD rfl rfl) ?_
    | refine c_pick (d_moveD rfl rfl) ?_
    | refine c_pick (d_fieldAddrB rfl rfl rfl) ?_
    | refine c_pick (d_loadBD rfl rfl rfl (by first | rfl | (simp only [pdE, cellsD]; rfl))) ?_
    | refine c_pick (d_call rfl (by kernel_rfl) rfl (by first | exact c0 | (simp only [← pdE]; exact c0) | exact c1 | (simp only [← pdE]; exact c1) | exact c2 | (simp only [← pdE]; exact c2))) ?_
    | refine c_pick (d_loadD rfl rfl (by first | rfl | (simp only [pdE, cellsD]; rfl))) ?_
    | fail)
    all_goals exact PLe.refl _
set_option maxHeartbeats 16000000 in
theorem eqKeys_p (x y : EV) : PCall Tryz.prog 49 [pdE x, pdE y] (.val (.bool (eqLx eqKv (kvE x) (kvE y)))) := by
  refine pcall_fits fun hfit => ?_
  have b1 := (Fits.aggAt (hfit (pdE x) (by simp)) 2 (d := .sl 1 16 (pdS x.keys)) rfl).sl.2.1
  rw [pdS_len] at b1
  clear hfit
  have n1 := pdS_len x.keys
  have n2 := pdVs_len x.l
  have n3 := pdS_len y.keys
  have n4 := pdVs_len y.l
  have m1 := kvE_len x
  have m2 := kvE_len y
  obtain ⟨z1, ez1⟩ : ∃ z, z = ((min (pdS x.keys).length (pdVs x.l).length : Nat) : Int) := ⟨_, rfl⟩
  obtain ⟨z2, ez2⟩ : ∃ z, z = ((min (pdS y.keys).length (pdVs y.l).length : Nat) : Int) := ⟨_, rfl⟩
  have hz1 : z1 = (((kvE x).length : Nat) : Int) := by omega
  have hz2 : z2 = (((kvE y).length : Nat) : Int) := by omega
  refine pcall_of_run Tryz.func49 rfl Tryz.ntmps49 rfl (fun X => ?_)
  by_cases hl : (kvE x).length = (kvE y).length
  rotate_left
  · have g1 : decide (((min (pdS x.keys).length (pdVs x.l).length : Nat) : Int) ≠ ((min (pdS y.keys).length (pdVs y.l).length : Nat) : Int)) = true := decide_eq_true (by omega)
    rw [eqLx_len hl]
    repeat' (first
    | refine run_seq ?_
    | (refine k_pick rfl ?_; first | refine k_assignD rfl rfl ?_ | refine k_moveD rfl rfl ?_ | refine k_bin2B rfl rfl rfl rfl ?_ | refine k_boxW rfl rfl rfl (by first | rfl | (simp only [pdE, cellsD]; rfl)) ?_)
    | refine run_opsEnd ?_
    | refine run_region ?_
    | refine run_condT rfl (by first | rfl | assumption) ?_
    | refine run_retOk (resOk_tmp rfl rfl ?_)
    | refine run_drawC (by kernel_rfl) ?_
    | refine c_nil (And.intro (by kernel_rfl) ?_)
    | refine c_pick (d_minN rfl rfl rfl) ?_
    | refine c_pick (d_assignD rfl rfl) ?_
    | refine c_pick (d_fieldAddrB rfl rfl rfl) ?_
    | refine c_pick (d_loadBD rfl rfl rfl (by first | rfl | (simp only [pdE, cellsD]; rfl))) ?_
    | refine c_pick (d_lenD rfl rfl) ?_
    | fail)
    all_goals exact PLe.refl _
  have g1 : decide (((min (pdS x.keys).length (pdVs x.l).length : Nat) : Int) ≠ ((min (pdS y.keys).length (pdVs y.l).length : Nat) : Int)) = false := decide_eq_false (by omega)
  repeat' (first
    | refine run_seq ?_
    | (refine k_pick rfl ?_; first | refine k_assignD rfl rfl ?_ | refine k_moveD rfl rfl ?_ | refine k_bin2B rfl rfl rfl rfl ?_ | refine k_boxW rfl rfl rfl (by first | rfl | (simp only [pdE, cellsD]; rfl)) ?_)
    | refine run_opsEnd ?_
    | refine run_region ?_
    | refine run_condF rfl (by first | rfl | assumption) ?_
    | refine run_block ?_
    | refine run_skip ?_
    | refine run_drawC (by kernel_rfl) ?_
    | refine c_nil (And.intro (by kernel_rfl) ?_)
    | refine c_pick (d_minN rfl rfl rfl) ?_
    | refine c_pick (d_assignD rfl rfl) ?_
    | refine c_pick (d_fieldAddrB rfl rfl rfl) ?_
    | refine c_pick (d_loadBD rfl rfl rfl (by first | rfl | (simp only [pdE, cellsD]; rfl))) ?_
    | refine c_pick (d_lenD rfl rfl) ?_
    | fail)
  refine run_loopS (ι := { j : Nat // j ≤ (kvE x).length ∧ ∀ i f g, i < j → (kvE x)[i]? = some f → (kvE y)[i]? = some g → eqKv f g = true })
    (fun j => [(2, .ptr 2 0), (3, .ptr 3 0), (5, .dat (.val (.int .i64 z1))), (7, .dat (.val (.int .i64 (j.1 : Nat))))])
    (fun j => [(2, .box 29 (cellsD (pdE x))), (3, .box 29 (cellsD (pdE y)))]) (fun j => (kvE x).length - j.1) ⟨0, Nat.zero_le _, fun i _ _ h => absurd h (Nat.not_lt_zero i)⟩ id ?_ ?_
  · (refine ⟨?_, ?_, by rfl⟩ <;> repeat' (first | exact trivial | exact ALe.ptr rfl | exact ALe.own rfl | exact ALe.elt rfl | exact BLe.boxD _ _ | exact BLe.row rfl | exact BLe.res | exact BLe.dead rfl | exact ALe.dat (PLe.refl _) | exact CLe.nil | refine And.intro ?_ ?_ | refine ALe.iface ?_ | refine ALe.clo ?_ | refine CLe.cons ?_ ?_ | refine BLe.box ?_ | refine BLe.row ?_ | exact ALe.any _ | refine ALe.dat (PLe.of_eq ?_)))
    all_goals first | rfl | (rw [ez1])
  rintro ⟨j, hj, hall⟩
  by_cases hlt : j < (kvE x).length
  rotate_left
  · have g2 : decide ((j : Int) < z1) = false := decide_eq_false (by omega)
    rw [eqLx_all hl fun i f g hf hg => hall i f g (by have := (List.getElem?_eq_some_iff.1 hf).1; omega) hf hg]
    repeat' (first
    | refine run_seq ?_
    | (refine k_pick rfl ?_; first | refine k_assignD rfl rfl ?_ | refine k_moveD rfl rfl ?_ | refine k_bin2B rfl rfl rfl rfl ?_)
    | refine run_opsEnd ?_
    | refine run_region ?_
    | refine run_condF rfl (by first | rfl | assumption) ?_
    | refine run_exit rfl ?_
    | refine run_retOk (resOk_tmp rfl rfl ?_)
    | fail)
    all_goals exact PLe.refl _
  have g2 : decide ((j : Int) < z1) = true := decide_eq_true (by omega)
  obtain ⟨f1, hf1⟩ : ∃ u, x.keys[j]? = some u := ⟨_, List.getElem?_eq_getElem (by omega)⟩
  obtain ⟨f2, hf2⟩ : ∃ u, x.l[j]? = some u := ⟨_, List.getElem?_eq_getElem (by omega)⟩
  obtain ⟨u1, hu1⟩ : ∃ u, y.keys[j]? = some u := ⟨_, List.getElem?_eq_getElem (by omega)⟩
  obtain ⟨u2, hu2⟩ : ∃ u, y.l[j]? = some u := ⟨_, List.getElem?_eq_getElem (by omega)⟩
  have i1 := pdS_i hf1
  have i2 := pdVs_i hf2
  have i3 := pdS_i hu1
  have i4 := pdVs_i hu2
  have c2 := eqSpec_p f2 u2
  have hx := kvE_at hf1 hf2
  have hy := kvE_at hu1 hu2
  by_cases hs : f1 = u1
  · have g3 : (!decide (f1 = u1)) = false := by simp [hs]
    have g3' : decide (f1 ≠ u1) = false := by simp [hs]
    cases hv : eqP (cleanV f2) (cleanV u2) with
    | true =>
      rw [hv] at c2
      repeat' (first
    | refine run_seq ?_
    | (refine k_pick rfl ?_; first | refine k_assignD rfl rfl ?_ | refine k_moveD rfl rfl ?_ | refine k_bin2B rfl rfl rfl rfl ?_ | refine k_ariI rfl rfl rfl rfl (by first | omega | (dsimp only; omega)) ?_)
    | refine run_opsEnd ?_
    | refine run_region ?_
    | refine run_condT rfl (by first | rfl | assumption) ?_
    | refine run_condF rfl (by first | rfl | assumption) ?_
    | refine run_block ?_
    | refine run_blkEnd ?_
    | refine run_skip ?_
    | refine run_drawC (by kernel_rfl) ?_
    | refine c_nil (And.intro (by kernel_rfl) ?_)
    | refine c_pick (d_indexAddrD rfl rfl rfl (by first | omega | (dsimp only; omega)) (by assumption)) ?_
    | refine c_pick (d_moveD rfl rfl) ?_
    | refine c_pick (d_fieldAddrB rfl rfl rfl) ?_
    | refine c_pick (d_loadBD rfl rfl rfl (by first | rfl | (simp only [pdE, cellsD]; rfl))) ?_
    | refine c_pick (d_bin2B rfl rfl rfl rfl) ?_
    | refine c_pick (d_pickF rfl rfl (by first | rfl | assumption) rfl) ?_
    | refine c_pick (d_loadD rfl rfl (by first | rfl | (simp only [pdE, cellsD]; rfl))) ?_
    | refine c_pickY rfl (by first | rfl | assumption) (d_indexAddrD rfl rfl rfl (by first | omega | (dsimp only; omega)) (by assumption)) ?_
    | refine c_pickY rfl (by first | rfl | assumption) (d_moveD rfl rfl) ?_
    | refine c_pickY rfl (by first | rfl | assumption) (d_fieldAddrB rfl rfl rfl) ?_
    | refine c_pickY rfl (by first | rfl | assumption) (d_loadBD rfl rfl rfl (by first | rfl | (simp only [pdE, cellsD]; rfl))) ?_
    | refine c_pickY rfl (by first | rfl | assumption) (d_call rfl (by kernel_rfl) rfl (by first | exact c2 | (simp only [← pdE]; exact c2))) ?_
    | refine c_pickY rfl (by first | rfl | assumption) (d_not rfl rfl) ?_
    | refine c_pickY rfl (by first | rfl | assumption) (d_loadD rfl rfl (by first | rfl | (simp only [pdE, cellsD]; rfl))) ?_
    | fail)
      refine run_again ?_
      refine ⟨⟨j + 1, by omega, fun i f g hi hf hg => ?_⟩, id, by simp only; omega, ?_⟩
      · by_cases e : i = j
        · subst e
          rw [hx] at hf; rw [hy] at hg
          cases hf; cases hg
          unfold eqKv
          simp only
          rw [hv]; simp [hs]
        · exact hall i f g (by omega) hf hg
      (refine ⟨?_, ?_, by rfl⟩ <;> repeat' (first | exact trivial | exact ALe.ptr rfl | exact ALe.own rfl | exact ALe.elt rfl | exact BLe.boxD _ _ | exact BLe.row rfl | exact BLe.res | exact BLe.dead rfl | exact ALe.dat (PLe.refl _) | exact CLe.nil | refine And.intro ?_ ?_ | refine ALe.iface ?_ | refine ALe.clo ?_ | refine CLe.cons ?_ ?_ | refine BLe.box ?_ | refine BLe.row ?_ | exact ALe.any _ | refine ALe.dat (PLe.of_eq ?_)))
    | false =>
      rw [hv] at c2
      rw [eqLx_no hx hy (by unfold eqKv; simp only; rw [hv]; simp)]
      repeat' (first
    | refine run_seq ?_
    | (refine k_pick rfl ?_; first | refine k_assignD rfl rfl ?_ | refine k_moveD rfl rfl ?_ | refine k_bin2B rfl rfl rfl rfl ?_)
    | refine run_opsEnd ?_
    | refine run_region ?_
    | refine run_condT rfl (by first | rfl | assumption) ?_
    | refine run_block ?_
    | refine run_skip ?_
    | refine run_retOk (resOk_tmp rfl rfl ?_)
    | refine run_drawC (by kernel_rfl) ?_
    | refine c_nil (And.intro (by kernel_rfl) ?_)
    | refine c_pick (d_indexAddrD rfl rfl rfl (by first | omega | (dsimp only; omega)) (by assumption)) ?_
    | refine c_pick (d_moveD rfl rfl) ?_
    | refine c_pick (d_fieldAddrB rfl rfl rfl) ?_
    | refine c_pick (d_loadBD rfl rfl rfl (by first | rfl | (simp only [pdE, cellsD]; rfl))) ?_
    | refine c_pick (d_bin2B rfl rfl rfl rfl) ?_
    | refine c_pick (d_pickF rfl rfl (by first | rfl | assumption) rfl) ?_
    | refine c_pick (d_loadD rfl rfl (by first | rfl | (simp only [pdE, cellsD]; rfl))) ?_
    | refine c_pickY rfl (by first | rfl | assumption) (d_indexAddrD rfl rfl rfl (by first | omega | (dsimp only; omega)) (by assumption)) ?_
    | refine c_pickY rfl (by first | rfl | assumption) (d_moveD rfl rfl) ?_
    | refine c_pickY rfl (by first | rfl | assumption) (d_fieldAddrB rfl rfl rfl) ?_
    | refine c_pickY rfl (by first | rfl | assumption) (d_loadBD rfl rfl rfl (by first | rfl | (simp only [pdE, cellsD]; rfl))) ?_
    | refine c_pickY rfl (by first | rfl | assumption) (d_call rfl (by kernel_rfl) rfl (by first | exact c2 | (simp only [← pdE]; exact c2))) ?_
    | refine c_pickY rfl (by first | rfl | assumption) (d_not rfl rfl) ?_
    | refine c_pickY rfl (by first | rfl | assumption) (d_loadD rfl rfl (by first | rfl | (simp only [pdE, cellsD]; rfl))) ?_
    | fail)
      all_goals exact PLe.refl _
  · have g3 : (!decide (f1 = u1)) = true := by simp [hs]
    have g3' : decide (f1 ≠ u1) = true := by simp [hs]
    rw [eqLx_no hx hy (by unfold eqKv; simp [hs])]
    repeat' (first
    | refine run_seq ?_
    | (refine k_pick rfl ?_; first | refine k_assignD rfl rfl ?_ | refine k_moveD rfl rfl ?_ | refine k_bin2B rfl rfl rfl rfl ?_)
    | refine run_opsEnd ?_
    | refine run_region ?_
    | refine run_condT rfl (by first | rfl | assumption) ?_
    | refine run_block ?_
    | refine run_skip ?_
    | refine run_retOk (resOk_tmp rfl rfl ?_)
    | refine run_drawC (by kernel_rfl) ?_
    | refine c_nil (And.intro (by kernel_rfl) ?_)
    | refine c_pick (d_indexAddrD rfl rfl rfl (by first | omega | (dsimp only; omega)) (by assumption)) ?_
    | refine c_pick (d_moveD rfl rfl) ?_
    | refine c_pick (d_fieldAddrB rfl rfl rfl) ?_
    | refine c_pick (d_loadBD rfl rfl rfl (by first | rfl | (simp only [pdE, cellsD]; rfl))) ?_
    | refine c_pick (d_bin2B rfl rfl rfl rfl) ?_
    | refine c_pick (d_pickT rfl rfl (by first | rfl | assumption) rfl) ?_
    | refine c_pick (d_loadD rfl rfl (by first | rfl | (simp only [pdE, cellsD]; rfl))) ?_
    | refine c_passF rfl (by first | rfl | assumption) rfl ?_
    | fail)
    all_goals exact PLe.refl _
set_option maxHeartbeats 8000000 in
theorem cmpElems_p (x y : EV) : PCall Tryz.prog 21 [pdE x, pdE y] (.val (.int .i64 (cmpE x y))) := by
  have c1 := elemRank_p x
  have c2 := elemRank_p y
  have c3 := sInts_p (rkE x) (rkE y)
  have c4 := cmpKeys_p x y
  have c5 := sCmpVals_p x.v y.v
  have c6 := sInts_p x.n y.n
  have c7 := sStrs_p x.s y.s
  unfold cmpE bodyE
  unfold pdE at *
  unfold qV at c5
  by_cases h0 : rkE x = rkE y
  rotate_left
  · have h0' : cmpI (rkE x) (rkE y) ≠ 0 := fun h => h0 (cmpI_zero.1 h)
    have g0 : decide (cmpI (rkE x) (rkE y) ≠ 0) = true := decide_eq_true h0'
    rw [lx_pos h0']
    refine pcall_of_run Tryz.func21 rfl Tryz.ntmps21 rfl (fun X => ?_)
    repeat' (first
    | refine run_seq ?_
    | (refine k_pick rfl ?_; first | refine k_assignD rfl rfl ?_ | refine k_moveD rfl rfl ?_ | refine k_bin2B rfl rfl rfl rfl ?_ | refine k_boxW rfl rfl rfl (by first | rfl | (simp only [cellsD]; rfl)) ?_)
    | refine run_opsEnd ?_
    | refine run_region ?_
    | refine run_condT rfl (by first | rfl | assumption) ?_
    | refine run_retOk (resOk_tmp rfl rfl ?_)
    | refine run_drawC (by kernel_rfl) ?_
    | refine c_nil (And.intro (by kernel_rfl) ?_)
    | refine c_pick (d_assignD rfl rfl) ?_
    | refine c_pick (d_loadW rfl rfl rfl (by first | rfl | (simp only [cellsD]; rfl))) ?_
    | refine c_pick (d_call rfl (by kernel_rfl) rfl (by first | exact c1 | exact c2 | exact c3)) ?_
    | fail)
    all_goals exact PLe.refl _
  have h0' : cmpI (rkE x) (rkE y) = 0 := cmpI_zero.2 h0
  have g0 : decide (cmpI (rkE x) (rkE y) ≠ 0) = false := decide_eq_false (by simp [h0'])
  rw [lx_zero h0']
  by_cases h1 : rkE x = 1
  · have g1 : decide (rkE x = 1) = true := decide_eq_true h1
    rw [if_pos h1]
    refine pcall_of_run Tryz.func21 rfl Tryz.ntmps21 rfl (fun X => ?_)
    repeat' (first
    | refine run_seq ?_
    | (refine k_pick rfl ?_; first | refine k_assignD rfl rfl ?_ | refine k_moveD rfl rfl ?_ | refine k_loadW rfl rfl rfl (by first | rfl | (simp only [cellsD]; rfl)) ?_ | refine k_bin2B rfl rfl rfl rfl ?_ | refine k_boxW rfl rfl rfl (by first | rfl | (simp only [cellsD]; rfl)) ?_ | refine k_call rfl (by kernel_rfl) rfl (by first | exact c1 | exact c2 | exact c3 | exact c4) ?_)
    | refine run_opsEnd ?_
    | refine run_region ?_
    | refine run_condT rfl (by first | rfl | assumption) ?_
    | refine run_condF rfl (by first | rfl | assumption) ?_
    | refine run_block ?_
    | refine run_skip ?_
    | refine run_retOk (resOk_tmp rfl rfl ?_)
    | refine run_drawC (by kernel_rfl) ?_
    | refine c_nil (And.intro (by kernel_rfl) ?_)
    | refine c_pick (d_assignD rfl rfl) ?_
    | refine c_pick (d_loadW rfl rfl rfl (by first | rfl | (simp only [cellsD]; rfl))) ?_
    | refine c_pick (d_call rfl (by kernel_rfl) rfl (by first | exact c1 | exact c2 | exact c3 | exact c4)) ?_
    | fail)
    all_goals exact PLe.refl _
  have g1 : decide (rkE x = 1) = false := decide_eq_false h1
  rw [if_neg h1]
  by_cases h2 : rkE x = 2
  · have g2 : decide (rkE x = 2) = true := decide_eq_true h2
    rw [if_pos h2]
    refine pcall_of_run Tryz.func21 rfl Tryz.ntmps21 rfl (fun X => ?_)
    repeat' (first
    | refine run_seq ?_
    | (refine k_pick rfl ?_; first | refine k_assignD rfl rfl ?_ | refine k_moveD rfl rfl ?_ | refine k_fieldAddrB rfl rfl rfl ?_ | refine k_loadW rfl rfl rfl (by first | rfl | (simp only [cellsD]; rfl)) ?_ | refine k_loadBD rfl rfl rfl (by first | rfl | (simp only [cellsD]; rfl)) ?_ | refine k_bin2B rfl rfl rfl rfl ?_ | refine k_boxW rfl rfl rfl (by first | rfl | (simp only [cellsD]; rfl)) ?_ | refine k_call rfl (by kernel_rfl) rfl (by first | exact c1 | exact c2 | exact c3 | exact c5) ?_)
    | refine run_opsEnd ?_
    | refine run_region ?_
    | refine run_condT rfl (by first | rfl | assumption) ?_
    | refine run_condF rfl (by first | rfl | assumption) ?_
    | refine run_block ?_
    | refine run_skip ?_
    | refine run_retOk (resOk_tmp rfl rfl ?_)
    | refine run_drawC (by kernel_rfl) ?_
    | refine c_nil (And.intro (by kernel_rfl) ?_)
    | refine c_pick (d_assignD rfl rfl) ?_
    | refine c_pick (d_loadW rfl rfl rfl (by first | rfl | (simp only [cellsD]; rfl))) ?_
    | refine c_pick (d_call rfl (by kernel_rfl) rfl (by first | exact c1 | exact c2 | exact c3 | exact c5)) ?_
    | fail)
    all_goals exact PLe.refl _
  have g2 : decide (rkE x = 2) = false := decide_eq_false h2
  rw [if_neg h2]
  by_cases h3 : rkE x = 3
  · have g3 : decide (rkE x = 3) = true := decide_eq_true h3
    rw [if_pos h3]
    refine pcall_of_run Tryz.func21 rfl Tryz.ntmps21 rfl (fun X => ?_)
    repeat' (first
    | refine run_seq ?_
    | (refine k_pick rfl ?_; first | refine k_assignD rfl rfl ?_ | refine k_moveD rfl rfl ?_ | refine k_fieldAddrB rfl rfl rfl ?_ | refine k_loadW rfl rfl rfl (by first | rfl | (simp only [cellsD]; rfl)) ?_ | refine k_loadBD rfl rfl rfl (by first | rfl | (simp only [cellsD]; rfl)) ?_ | refine k_bin2B rfl rfl rfl rfl ?_ | refine k_boxW rfl rfl rfl (by first | rfl | (simp only [cellsD]; rfl)) ?_ | refine k_call rfl (by kernel_rfl) rfl (by first | exact c1 | exact c2 | exact c3 | exact c6) ?_)
    | refine run_opsEnd ?_
    | refine run_region ?_
    | refine run_condT rfl (by first | rfl | assumption) ?_
    | refine run_condF rfl (by first | rfl | assumption) ?_
    | refine run_block ?_
    | refine run_skip ?_
    | refine run_retOk (resOk_tmp rfl rfl ?_)
    | refine run_drawC (by kernel_rfl) ?_
    | refine c_nil (And.intro (by kernel_rfl) ?_)
    | refine c_pick (d_assignD rfl rfl) ?_
    | refine c_pick (d_loadW rfl rfl rfl (by first | rfl | (simp only [cellsD]; rfl))) ?_
    | refine c_pick (d_call rfl (by kernel_rfl) rfl (by first | exact c1 | exact c2 | exact c3 | exact c6)) ?_
    | fail)
    all_goals exact PLe.refl _
  have g3 : decide (rkE x = 3) = false := decide_eq_false h3
  rw [if_neg h3]
  refine pcall_of_run Tryz.func21 rfl Tryz.ntmps21 rfl (fun X => ?_)
  repeat' (first
    | refine run_seq ?_
    | (refine k_pick rfl ?_; first | refine k_assignD rfl rfl ?_ | refine k_moveD rfl rfl ?_ | refine k_fieldAddrB rfl rfl rfl ?_ | refine k_loadW rfl rfl rfl (by first | rfl | (simp only [cellsD]; rfl)) ?_ | refine k_loadBD rfl rfl rfl (by first | rfl | (simp only [cellsD]; rfl)) ?_ | refine k_bin2B rfl rfl rfl rfl ?_ | refine k_boxW rfl rfl rfl (by first | rfl | (simp only [cellsD]; rfl)) ?_ | refine k_call rfl (by kernel_rfl) rfl (by first | exact c1 | exact c2 | exact c3 | exact c7) ?_)
    | refine run_opsEnd ?_
    | refine run_region ?_
    | refine run_condF rfl (by first | rfl | assumption) ?_
    | refine run_block ?_
    | refine run_blkEnd ?_
    | refine run_skip ?_
    | refine run_retOk (resOk_tmp rfl rfl ?_)
    | refine run_drawC (by kernel_rfl) ?_
    | refine c_nil (And.intro (by kernel_rfl) ?_)
    | refine c_pick (d_assignD rfl rfl) ?_
    | refine c_pick (d_loadW rfl rfl rfl (by first | rfl | (simp only [cellsD]; rfl))) ?_
    | refine c_pick (d_call rfl (by kernel_rfl) rfl (by first | exact c1 | exact c2 | exact c3 | exact c7)) ?_
    | fail)
  all_goals exact PLe.refl _
set_option maxHeartbeats 8000000 in
theorem eqElems_p (x y : EV) : PCall Tryz.prog 18 [pdE x, pdE y] (.val (.bool (eqE x y))) := by
  have c1 := elemRank_p x
  have c2 := elemRank_p y
  have c4 := eqKeys_p x y
  have c5 := eqSpec_p x.v y.v
  unfold eqE
  unfold pdE at *
  unfold qV at c5
  by_cases h0 : rkE x = rkE y
  rotate_left
  · have g0 : decide (rkE x ≠ rkE y) = true := decide_eq_true h0
    rw [if_pos h0]
    refine pcall_of_run Tryz.func18 rfl Tryz.ntmps18 rfl (fun X => ?_)
    repeat' (first
    | refine run_seq ?_
    | (refine k_pick rfl ?_; first | refine k_assignD rfl rfl ?_ | refine k_boxW rfl rfl rfl (by first | rfl | (simp only [cellsD]; rfl)) ?_)
    | refine run_opsEnd ?_
    | refine run_region ?_
    | refine run_condT rfl (by first | rfl | assumption) ?_
    | refine run_retOk (resOk_tmp rfl rfl ?_)
    | refine run_drawC (by kernel_rfl) ?_
    | refine c_nil (And.intro (by kernel_rfl) ?_)
    | refine c_pick (d_loadW rfl rfl rfl (by first | rfl | (simp only [cellsD]; rfl))) ?_
    | refine c_pick (d_bin2B rfl rfl rfl rfl) ?_
    | refine c_pick (d_call rfl (by kernel_rfl) rfl (by first | exact c1 | exact c2)) ?_
    | fail)
    all_goals exact PLe.refl _
  have g0 : decide (rkE x ≠ rkE y) = false := decide_eq_false (by simp [h0])
  rw [if_neg (by simp [h0])]
  by_cases h1 : rkE x = 1
  · have g1 : decide (rkE x = 1) = true := decide_eq_true h1
    rw [if_pos h1]
    refine pcall_of_run Tryz.func18 rfl Tryz.ntmps18 rfl (fun X => ?_)
    repeat' (first
    | refine run_seq ?_
    | (refine k_pick rfl ?_; first | refine k_assignD rfl rfl ?_ | refine k_loadW rfl rfl rfl (by first | rfl | (simp only [cellsD]; rfl)) ?_ | refine k_bin2B rfl rfl rfl rfl ?_ | refine k_boxW rfl rfl rfl (by first | rfl | (simp only [cellsD]; rfl)) ?_ | refine k_call rfl (by kernel_rfl) rfl (by first | exact c1 | exact c2 | exact c4) ?_)
    | refine run_opsEnd ?_
    | refine run_region ?_
    | refine run_condT rfl (by first | rfl | assumption) ?_
    | refine run_condF rfl (by first | rfl | assumption) ?_
    | refine run_block ?_
    | refine run_skip ?_
    | refine run_retOk (resOk_tmp rfl rfl ?_)
    | refine run_drawC (by kernel_rfl) ?_
    | refine c_nil (And.intro (by kernel_rfl) ?_)
    | refine c_pick (d_loadW rfl rfl rfl (by first | rfl | (simp only [cellsD]; rfl))) ?_
    | refine c_pick (d_bin2B rfl rfl rfl rfl) ?_
    | refine c_pick (d_call rfl (by kernel_rfl) rfl (by first | exact c1 | exact c2 | exact c4)) ?_
    | fail)
    all_goals exact PLe.refl _
  have g1 : decide (rkE x = 1) = false := decide_eq_false h1
  rw [if_neg h1]
  by_cases h2 : rkE x = 2
  · have g2 : decide (rkE x = 2) = true := decide_eq_true h2
    rw [if_pos h2]
    refine pcall_of_run Tryz.func18 rfl Tryz.ntmps18 rfl (fun X => ?_)
    repeat' (first
    | refine run_seq ?_
    | (refine k_pick rfl ?_; first | refine k_assignD rfl rfl ?_ | refine k_fieldAddrB rfl rfl rfl ?_ | refine k_loadW rfl rfl rfl (by first | rfl | (simp only [cellsD]; rfl)) ?_ | refine k_loadBD rfl rfl rfl (by first | rfl | (simp only [cellsD]; rfl)) ?_ | refine k_bin2B rfl rfl rfl rfl ?_ | refine k_boxW rfl rfl rfl (by first | rfl | (simp only [cellsD]; rfl)) ?_ | refine k_call rfl (by kernel_rfl) rfl (by first | exact c1 | exact c2 | exact c5) ?_)
    | refine run_opsEnd ?_
    | refine run_region ?_
    | refine run_condT rfl (by first | rfl | assumption) ?_
    | refine run_condF rfl (by first | rfl | assumption) ?_
    | refine run_block ?_
    | refine run_skip ?_
    | refine run_retOk (resOk_tmp rfl rfl ?_)
    | refine run_drawC (by kernel_rfl) ?_
    | refine c_nil (And.intro (by kernel_rfl) ?_)
    | refine c_pick (d_loadW rfl rfl rfl (by first | rfl | (simp only [cellsD]; rfl))) ?_
    | refine c_pick (d_bin2B rfl rfl rfl rfl) ?_
    | refine c_pick (d_call rfl (by kernel_rfl) rfl (by first | exact c1 | exact c2 | exact c5)) ?_
    | fail)
    all_goals exact PLe.refl _
  have g2 : decide (rkE x = 2) = false := decide_eq_false h2
  rw [if_neg h2]
  by_cases h3 : rkE x = 3
  · have g3 : decide (rkE x = 3) = true := decide_eq_true h3
    rw [if_pos h3]
    refine pcall_of_run Tryz.func18 rfl Tryz.ntmps18 rfl (fun X => ?_)
    repeat' (first
    | refine run_seq ?_
    | (refine k_pick rfl ?_; first | refine k_assignD rfl rfl ?_ | refine k_fieldAddrB rfl rfl rfl ?_ | refine k_loadW rfl rfl rfl (by first | rfl | (simp only [cellsD]; rfl)) ?_ | refine k_loadBD rfl rfl rfl (by first | rfl | (simp only [cellsD]; rfl)) ?_ | refine k_bin2B rfl rfl rfl rfl ?_ | refine k_boxW rfl rfl rfl (by first | rfl | (simp only [cellsD]; rfl)) ?_ | refine k_call rfl (by kernel_rfl) rfl (by first | exact c1 | exact c2) ?_)
    | refine run_opsEnd ?_
    | refine run_region ?_
    | refine run_condT rfl (by first | rfl | assumption) ?_
    | refine run_condF rfl (by first | rfl | assumption) ?_
    | refine run_block ?_
    | refine run_skip ?_
    | refine run_retOk (resOk_tmp rfl rfl ?_)
    | refine run_drawC (by kernel_rfl) ?_
    | refine c_nil (And.intro (by kernel_rfl) ?_)
    | refine c_pick (d_loadW rfl rfl rfl (by first | rfl | (simp only [cellsD]; rfl))) ?_
    | refine c_pick (d_bin2B rfl rfl rfl rfl) ?_
    | refine c_pick (d_call rfl (by kernel_rfl) rfl (by first | exact c1 | exact c2)) ?_
    | fail)
    all_goals exact PLe.refl _
  have g3 : decide (rkE x = 3) = false := decide_eq_false h3
  rw [if_neg h3]
  refine pcall_of_run Tryz.func18 rfl Tryz.ntmps18 rfl (fun X => ?_)
  repeat' (first
    | refine run_seq ?_
    | (refine k_pick rfl ?_; first | refine k_assignD rfl rfl ?_ | refine k_fieldAddrB rfl rfl rfl ?_ | refine k_loadW rfl rfl rfl (by first | rfl | (simp only [cellsD]; rfl)) ?_ | refine k_loadBD rfl rfl rfl (by first | rfl | (simp only [cellsD]; rfl)) ?_ | refine k_bin2B rfl rfl rfl rfl ?_ | refine k_boxW rfl rfl rfl (by first | rfl | (simp only [cellsD]; rfl)) ?_ | refine k_call rfl (by kernel_rfl) rfl (by first | exact c1 | exact c2) ?_)
    | refine run_opsEnd ?_
    | refine run_region ?_
    | refine run_condF rfl (by first | rfl | assumption) ?_
    | refine run_block ?_
    | refine run_blkEnd ?_
    | refine run_skip ?_
    | refine run_retOk (resOk_tmp rfl rfl ?_)
    | refine run_drawC (by kernel_rfl) ?_
    | refine c_nil (And.intro (by kernel_rfl) ?_)
    | refine c_pick (d_loadW rfl rfl rfl (by first | rfl | (simp only [cellsD]; rfl))) ?_
    | refine c_pick (d_bin2B rfl rfl rfl rfl) ?_
    | refine c_pick (d_call rfl (by kernel_rfl) rfl (by first | exact c1 | exact c2)) ?_
    | fail)
  all_goals exact PLe.refl _
end Go.Proofs.YtbbacpdbbmjblaaGreat
end
section
set_option linter.unusedVariables false
namespace Go.Proofs.YtbbacpdbbmjblaaGreat
open Go.RowKit
set_option linter.unusedSimpArgs false
theorem fits13_p (x : EV) : ∃ b, PCall Tryz.prog 8 [pdE x] (.val (.bool b)) := by
  have c := fits2_p x.keys
  unfold pdE
  cases h1 : decide ((2147483647 : Int) < (x.s.size : Int)) with
  | true =>
    refine ⟨false, ?_⟩
    refine pcall_of_run Tryz.func8 rfl Tryz.ntmps8 rfl (fun X => ?_)
    repeat' (first
    | refine run_seq ?_
    | (refine k_pick rfl ?_; first | refine k_assignD rfl rfl ?_ | refine k_fieldAddrB rfl rfl rfl ?_ | refine k_loadBD rfl rfl rfl (by first | rfl | (simp only [cellsD]; rfl)) ?_ | refine k_bin2B rfl rfl rfl rfl ?_ | refine k_boxW rfl rfl rfl (by first | rfl | (simp only [cellsD]; rfl)) ?_ | refine k_lenS rfl rfl (by kernel_rfl) ?_)
    | refine run_opsEnd ?_
    | refine run_region ?_
    | refine run_condT rfl (by first | rfl | assumption) ?_
    | refine run_retOk (resOk_tmp rfl rfl ?_)
    | fail)
    all_goals exact PLe.refl _
  | false =>
    cases h2 : fitS x.keys with
    | false =>
      rw [h2] at c
      refine ⟨false, ?_⟩
      refine pcall_of_run Tryz.func8 rfl Tryz.ntmps8 rfl (fun X => ?_)
      repeat' (first
    | refine run_seq ?_
    | (refine k_pick rfl ?_; first | refine k_assignD rfl rfl ?_ | refine k_fieldAddrB rfl rfl rfl ?_ | refine k_loadBD rfl rfl rfl (by first | rfl | (simp only [cellsD]; rfl)) ?_ | refine k_bin2B rfl rfl rfl rfl ?_ | refine k_boxW rfl rfl rfl (by first | rfl | (simp only [cellsD]; rfl)) ?_ | refine k_call rfl (by kernel_rfl) rfl (by first | exact c) ?_ | refine k_lenS rfl rfl (by kernel_rfl) ?_ | refine k_not rfl rfl ?_)
    | refine run_opsEnd ?_
    | refine run_region ?_
    | refine run_condT rfl (by first | rfl | assumption) ?_
    | refine run_condF rfl (by first | rfl | assumption) ?_
    | refine run_skip ?_
    | refine run_retOk (resOk_tmp rfl rfl ?_)
    | fail)
      all_goals exact PLe.refl _
    | true =>
      rw [h2] at c
      cases h3 : decide ((2147483647 : Int) < (((pdVs x.l).length : Nat) : Int)) with
      | true =>
        refine ⟨false, ?_⟩
        refine pcall_of_run Tryz.func8 rfl Tryz.ntmps8 rfl (fun X => ?_)
        repeat' (first
    | refine run_seq ?_
    | (refine k_pick rfl ?_; first | refine k_assignD rfl rfl ?_ | refine k_fieldAddrB rfl rfl rfl ?_ | refine k_loadBD rfl rfl rfl (by first | rfl | (simp only [cellsD]; rfl)) ?_ | refine k_bin2B rfl rfl rfl rfl ?_ | refine k_boxW rfl rfl rfl (by first | rfl | (simp only [cellsD]; rfl)) ?_ | refine k_call rfl (by kernel_rfl) rfl (by first | exact c) ?_ | refine k_lenS rfl rfl (by kernel_rfl) ?_ | refine k_lenD rfl rfl ?_ | refine k_not rfl rfl ?_)
    | refine run_opsEnd ?_
    | refine run_region ?_
    | refine run_condT rfl (by first | rfl | assumption) ?_
    | refine run_condF rfl (by first | rfl | assumption) ?_
    | refine run_skip ?_
    | refine run_retOk (resOk_tmp rfl rfl ?_)
    | fail)
        all_goals exact PLe.refl _
      | false =>
        refine ⟨true, ?_⟩
        refine pcall_of_run Tryz.func8 rfl Tryz.ntmps8 rfl (fun X => ?_)
        repeat' (first
    | refine run_seq ?_
    | (refine k_pick rfl ?_; first | refine k_assignD rfl rfl ?_ | refine k_fieldAddrB rfl rfl rfl ?_ | refine k_loadBD rfl rfl rfl (by first | rfl | (simp only [cellsD]; rfl)) ?_ | refine k_bin2B rfl rfl rfl rfl ?_ | refine k_boxW rfl rfl rfl (by first | rfl | (simp only [cellsD]; rfl)) ?_ | refine k_call rfl (by kernel_rfl) rfl (by first | exact c) ?_ | refine k_lenS rfl rfl (by kernel_rfl) ?_ | refine k_lenD rfl rfl ?_ | refine k_not rfl rfl ?_)
    | refine run_opsEnd ?_
    | refine run_region ?_
    | refine run_condF rfl (by first | rfl | assumption) ?_
    | refine run_skip ?_
    | refine run_retOk (resOk_tmp rfl rfl ?_)
    | fail)
        all_goals exact PLe.refl _
end Go.Proofs.YtbbacpdbbmjblaaGreat
end
section
set_option linter.unusedVariables false
namespace Go.Proofs.YtbbacpdbbmjblaaGreat
open Go.RowKit
set_option linter.unusedSimpArgs false
section
variable {P : Program} {X : Base} {N : Nat} {Q : Exit → Act → World → Prop} {ops : Array Oper} {rem : List Nat} {ks : List Itm} {s s' : Sta} {a : Act} {w w' : World} {ρ : Nat → RV}
theorem op_buildSliceF {o : Oper} (hd : dstOk X.N o.dst = true) {t len : Nat} {parts : Array (Nat × Operand)} (ho : o.op = .buildSlice t len parts) {e n y : Nat} (ht : slcI P t = some (e, n, y)) (hz : zlen P e = some n)
    {ds : List PD} (hds : partsD s n 0 parts.toList = some ds) (hlen : ds.length = len) (hn : Nat.blt 0 n = true) (hsm : Nat.ble (len * n) 16777216 = true) (hby : Nat.ble (len * y) 140737488351232 = true) :
    OpS P X o s (s.put o.dst (.dat (.sl n y ds))) := by
  intro a w ⟨ρ, hcc⟩ K Q hK
  have hn := (Nat.blt_eq.mp hn : 0 < n)
  have hsm := Nat.le_of_ble_eq_true hsm
  have hby := Nat.le_of_ble_eq_true hby
  obtain ⟨inf, hu, hi1, hs1, hb1⟩ := slcI_spec ht
  obtain ⟨i2, z, hi2, hz1, hz2, hz3⟩ := zlen_spec hz
  rw [hi1] at hi2
  cases hi2
  obtain ⟨vs, e1, e2, e3, e4⟩ := parts_spec hcc hds
  have hflat : (vs.flatMap fun v => v.cells.toList).length = len * n := by rw [e4.length, hlen]
  have hvl : vs.length = len := e2.trans hlen
  have hrun : (Instr.buildSlice t len (parts.map fun (i, x) => (i, a.eval x))).run P w = .ok (.slice (some ⟨w.heap.size, 0, none⟩) len len) (w.alloc (.cells (vs.flatMap fun v => v.cells.toList).toArray e)) := by
    have hp : (parts.map fun (i, x) => (i, a.eval x)).toList = (vs.zipIdx 0).map (fun x => (x.2, x.1)) := by rw [Array.toList_map]; exact e1
    have hfill : ∀ cells : Array Value, cells.size = len * n → Instr.fill (fun i => some (i * n, n)) cells ((vs.zipIdx 0).map fun x => (x.2, x.1)) = some (vs.flatMap fun v => v.cells.toList).toArray := fun cells hcs =>
      Great.fill_whole hn vs cells e3 (by rw [hvl, hcs])
    have hbig : ¬ (len * n > 2 ^ 24) := by omega
    by_cases h0 : len * n = 0
    · have := hfill ((Array.range (len * n)).map ((#[] : Array Value)[· % (#[] : Array Value).size]!)) (by simp)
      simp only [Instr.buildSlice, Sem.run_bind, run_underlying hu, Result.andThen_ok, sizeOf, typeInfo, run_program, hi1, Sem.run_pure, hs1, if_neg hbig, if_pos h0, hp, this, newRow, run_newObj]
      rfl
    · have := hfill ((Array.range (len * n)).map (z.cells[· % z.cells.size]!)) (by simp)
      simp only [Instr.buildSlice, Sem.run_bind, run_underlying hu, Result.andThen_ok, sizeOf, typeInfo, run_program, hi1, Sem.run_pure, hs1, if_neg hbig, if_neg h0, zeroValue, hz1, hp, this, newRow, run_newObj]
      rfl
  have hb := below_alloc w (.cells (vs.flatMap fun v => v.cells.toList).toArray e)
  have hF := FF_new hb hcc
  have hh := (MapKept.heap_alloc w (.cells (vs.flatMap fun v => v.cells.toList).toArray e)).1
  refine wp_value (v := .slice (some ⟨w.heap.size, 0, none⟩) len len) (w' := w.alloc (.cells (vs.flatMap fun v => v.cells.toList).toArray e)) (by simp [execOp, ho, hrun]) ?_
  refine hK _ _ ⟨ρ, (hcc.grow hb).putO hd ?_⟩
  unfold VR Rep
  have hg3 := e4.keep (w' := w.alloc (.cells (vs.flatMap fun v => v.cells.toList).toArray e)) (F' := FF X (w.alloc (.cells (vs.flatMap fun v => v.cells.toList).toArray e)) s.tb ρ) (fun b hb' => hb.block b hb'.2.1) (fun b hb' => hF b (.inl hb'))
  have hle : len ≤ len * n := Nat.le_mul_of_pos_right _ hn
  refine ⟨some ⟨w.heap.size, 0, none⟩, len, by rw [hlen], by rw [hlen]; exact Nat.le_refl _, by rw [hlen]; exact hby, by rw [hlen]; omega, .inr ⟨w.heap.size, 0, hF _ (.inr ⟨Nat.le_refl _, (Array.getElem?_eq_some_iff.1 hh).1⟩), rfl, ?_⟩⟩
  refine hg3.lies fun j u hj => ?_
  rw [cell_of_row _ w.heap.size (0 + j) _ _ _ hh]
  simpa using hj
theorem k_buildSliceF {d t e n y len : Nat} {parts : Array (Nat × Operand)} {ds : List PD} (hN : Nat.blt d N = true) [ht : SI P t e n y] (hz : zlen P e = some n) (hds : partsD s n 0 parts.toList = some ds) (hlen : ds.length = len) (hn : Nat.blt 0 n = true) (hsm : Nat.ble (len * n) 16777216 = true) (hby : Nat.ble (len * y) 140737488351232 = true)
    (h : Run P X N Q (.ops ops rem :: ks) (s.put (some d) (.dat (.sl n y ds)))) : RunK P X N Q ops rem ks (some d) (.buildSlice t len parts) s := k_of hN (fun _ _ _ hd => op_buildSliceF hd rfl ht.out hz hds hlen hn hsm hby) h
end
end Go.Proofs.YtbbacpdbbmjblaaGreat
end
section
set_option linter.unusedVariables false
namespace Go.Proofs.YtbbacpdbbmjblaaGreat
open Go.RowKit
set_option linter.unusedSimpArgs false
section
variable {P : Program} {X : Base} {N : Nat} {Q : Exit → Act → World → Prop} {s s' : Sta}
/-- In a drawn region: a call that answers with a block that is new. -/
theorem d_acallO (θ : Nat → Nat) {ops : List Oper} {d f kn : Nat} {xs : List Operand} {ts : Array TypeId} {az : List AV} {b2 : Blk} {out : AV} (hN : Nat.blt d N = true) (hf : callable P f = true) (hr : ACall1 P f az [] out [(0, b2)]) (hx : xs.map s.ev = renAs θ az) (hkn : θ 0 = kn) (hlt : Nat.blt kn 1000 = true)
    (hn : s.tb kn = none) (hok1 : lendOk1 θ az [] = true) (hok : lendOk2 θ [] [(0, b2)] = true) :
    TrK P X N ops (some d) (.call { callee := .value (.func f), args := xs.toArray, argTypes := ts }) ⟨none, some (kn, renB θ b2), some (d, renA θ out)⟩ s ((s.set kn (renB θ b2)).put (some d) (renA θ out)) := ⟨fun hX ty pos aft g s' hA => by
  have hev : xs.map s'.ev = renAs θ az := by rw [map_alike (fun x hx => ev_alike hA (by simp [Op.operands, Call.operands, hx]))]; exact hx
  have hn' : s'.tb kn = none := (new_alike hA rfl).trans hn
  intro a w ⟨ρ, hc⟩ K Q hK
  have hcall := hc.acall hX.2 θ hr trivial (fun _ => ⟨.inr ⟨by rw [hkn]; exact hn', by rw [hkn]; exact hlt⟩, trivial⟩) hok1 (fun _ => hok) (vs := xs.map a.eval) (by rw [← hev]; exact VRs_args hc rfl)
  refine run_enter hf (vs := xs.map a.eval) (by simp [execOp, resolve, Deferred.ofValue, Act.eval, invoke, run_callFunc hf]) (R := fun v w' => ∃ ρ', ConcAt X (s'.lend θ [(0, b2)]) a w' ρ' ∧ VR w' (FF X w' (s'.lend θ [(0, b2)]).tb ρ') (s'.lend θ [(0, b2)]).tb ρ' (renA θ out) v) (hcall.mono ?_) ?_
  · rintro e w' ⟨v, i, ρ', he, h1, h2⟩
    exact ⟨v, he, ρ', h1, h2⟩
  · rintro v w' ⟨ρ', h1, h2⟩
    have e : s'.lend θ [(0, b2)] = s'.set kn (renB θ b2) := by subst hkn; rfl
    rw [e] at h1 h2
    exact hK _ _ ⟨ρ', h1.putO (d := some d) (hN_ok hN hX) h2⟩, rfl⟩
end
def srtK : List ByteArray → Bool
  | a :: b :: r => decide (cmpS a b < 0) && srtK (b :: r)
  | _ => true
theorem srtK_no : ∀ {ks : List ByteArray} {i : Nat} {a b : ByteArray}, ks[i]? = some a → ks[i + 1]? = some b → 0 ≤ cmpS a b → srtK ks = false
  | [], _, _, _, h, _, _ => by simp at h
  | [_], i, a, b, _, h, _ => by simp at h
  | x :: y :: r, 0, a, b, h, h', hc => by
    simp at h h'
    subst h h'
    unfold srtK
    rw [decide_eq_false (by omega)]; rfl
  | x :: y :: r, i + 1, a, b, h, h', hc => by
    unfold srtK
    rw [srtK_no (ks := y :: r) (i := i) (by simpa using h) (by simpa using h') hc, Bool.and_false]
theorem srtK_yes : ∀ {ks : List ByteArray}, (∀ (i : Nat) (a b : ByteArray), ks[i]? = some a → ks[i + 1]? = some b → cmpS a b < 0) → srtK ks = true
  | [], _ => rfl
  | [_], _ => rfl
  | x :: y :: r, h => by
    unfold srtK
    rw [decide_eq_true (h 0 x y rfl rfl), srtK_yes (ks := y :: r) (fun i a b ha hb => h (i + 1) a b (by simpa using ha) (by simpa using hb))]; rfl
theorem cleanE_keys (x : EV) : (cleanE x).keys.length ≤ x.keys.length := by
  unfold cleanE
  split
  · simp only [List.length_take]; omega
  · split
    · simp
    · split <;> simp
set_option maxHeartbeats 8000000 in
theorem keySorted_p (x : EV) : PCall Tryz.prog 36 [pdE x] (.val (.bool (srtK (cleanE x).keys))) := by
  refine pcall_fits fun hfit => ?_
  have b1 := (Fits.aggAt (hfit (pdE x) (by simp)) 2 (d := .sl 1 16 (pdS x.keys)) rfl).sl.2.1
  rw [pdS_len] at b1
  clear hfit
  have b2 := cleanE_keys x
  have c1 := cleanE_p x
  generalize cleanE x = y at *
  have n1 := pdS_len y.keys
  refine pcall_of_run Tryz.func36 rfl Tryz.ntmps36 rfl (fun X => ?_)
  repeat' (first
    | refine run_seq ?_
    | (refine k_pick rfl ?_; first | refine k_assignD rfl rfl ?_ | refine k_loadW rfl rfl rfl (by first | rfl | (simp only [pdE, cellsD]; rfl)) ?_ | refine k_boxW rfl rfl rfl (by first | rfl | (simp only [pdE, cellsD]; rfl)) ?_ | refine k_call rfl (by kernel_rfl) rfl (by first | exact c1 | (simp only [← pdE]; exact c1)) ?_ | refine k_storeW rfl rfl rfl (by first | rfl | (simp only [pdE, cellsD]; rfl)) (by first | rfl | (simp only [pdE, cellsD]; rfl)) rfl ?_)
    | refine run_opsEnd ?_
    | refine run_region ?_
    | refine run_block ?_
    | fail)
  refine run_loopS (ι := { j : Nat // (j ≤ y.keys.length) ∧ ∀ (i : Nat) (a b : ByteArray), i < j → y.keys[i]? = some a → y.keys[i + 1]? = some b → cmpS a b < 0 })
    (fun j => [(1, .ptr 1 0), (3, .dat (.val (.int .i64 ((j.1 + 1 : Nat) : Int))))])
    (fun j => [(1, .box 29 (cellsD (pdE y)))]) (fun j => y.keys.length - j.1) ⟨0, Nat.zero_le _, fun i _ _ h => absurd h (Nat.not_lt_zero i)⟩ id ?_ ?_
  · (refine ⟨?_, ?_, by rfl⟩ <;> repeat' (first | exact trivial | exact ALe.ptr rfl | exact ALe.own rfl | exact ALe.elt rfl | exact BLe.boxD _ _ | exact BLe.row rfl | exact BLe.res | exact BLe.dead rfl | exact ALe.dat (PLe.refl _) | exact CLe.nil | refine And.intro ?_ ?_ | refine ALe.iface ?_ | refine ALe.clo ?_ | refine CLe.cons ?_ ?_ | refine BLe.box ?_ | refine BLe.row ?_ | exact ALe.any _ | refine ALe.dat (PLe.of_eq ?_)))
  rintro ⟨j, hj, hall⟩
  by_cases hlt : j + 1 < y.keys.length
  rotate_left
  · have g1 : decide (((j + 1 : Nat) : Int) < (((pdS y.keys).length : Nat) : Int)) = false := decide_eq_false (by omega)
    rw [srtK_yes fun i a b ha hb => hall i a b (by have := (List.getElem?_eq_some_iff.1 hb).1; omega) ha hb]
    repeat' (first
    | refine run_seq ?_
    | (refine k_pick rfl ?_; first | refine k_assignD rfl rfl ?_ | refine k_moveD rfl rfl ?_ | refine k_fieldAddrB rfl rfl rfl ?_ | refine k_loadBD rfl rfl rfl (by first | rfl | (simp only [pdE, cellsD]; rfl)) ?_ | refine k_bin2B rfl rfl rfl rfl ?_ | refine k_lenD rfl rfl ?_)
    | refine run_opsEnd ?_
    | refine run_region ?_
    | refine run_condF rfl (by first | rfl | assumption) ?_
    | refine run_exit rfl ?_
    | refine run_retOk (resOk_tmp rfl rfl ?_)
    | fail)
    all_goals exact PLe.refl _
  have g1 : decide (((j + 1 : Nat) : Int) < (((pdS y.keys).length : Nat) : Int)) = true := decide_eq_true (by omega)
  obtain ⟨a, ha⟩ : ∃ u, y.keys[j]? = some u := ⟨_, List.getElem?_eq_getElem (by omega)⟩
  obtain ⟨b, hb⟩ : ∃ u, y.keys[j + 1]? = some u := ⟨_, List.getElem?_eq_getElem hlt⟩
  have i1 : (pdS y.keys)[(((j + 1 : Nat) : Int) - 1).toNat]? = some (.val (.string a)) := by
    rw [show ((((j + 1 : Nat) : Int) - 1).toNat) = j by omega]; exact pdS_at ha
  have i2 := pdS_i hb
  have c2 := sStrs_p a b
  by_cases hs : cmpS a b < 0
  · have g2 : decide (0 ≤ cmpS a b) = false := decide_eq_false (by omega)
    repeat' (first
    | refine run_seq ?_
    | (refine k_pick rfl ?_; first | refine k_assignD rfl rfl ?_ | refine k_moveD rfl rfl ?_ | refine k_fieldAddrB rfl rfl rfl ?_ | refine k_loadBD rfl rfl rfl (by first | rfl | (simp only [pdE, cellsD]; rfl)) ?_ | refine k_bin2B rfl rfl rfl rfl ?_ | refine k_lenD rfl rfl ?_ | refine k_ariI rfl rfl rfl rfl (by first | omega | (dsimp only; omega)) ?_)
    | refine run_opsEnd ?_
    | refine run_region ?_
    | refine run_condT rfl (by first | rfl | assumption) ?_
    | refine run_condF rfl (by first | rfl | assumption) ?_
    | refine run_block ?_
    | refine run_blkEnd ?_
    | refine run_skip ?_
    | refine run_drawC (by kernel_rfl) ?_
    | refine c_nil (And.intro (by kernel_rfl) ?_)
    | refine c_pick (d_indexAddrD rfl rfl rfl (by first | omega | (dsimp only; omega)) (by assumption)) ?_
    | refine c_pick (d_moveD rfl rfl) ?_
    | refine c_pick (d_fieldAddrB rfl rfl rfl) ?_
    | refine c_pick (d_loadBD rfl rfl rfl (by first | rfl | (simp only [pdE, cellsD]; rfl))) ?_
    | refine c_pick (d_bin2B rfl rfl rfl rfl) ?_
    | refine c_pick (d_call rfl (by kernel_rfl) rfl (by first | exact c2 | (simp only [← pdE]; exact c2))) ?_
    | refine c_pick (d_ariI rfl rfl rfl rfl (by first | omega | (dsimp only; omega))) ?_
    | refine c_pick (d_loadD rfl rfl (by first | rfl | (simp only [pdE, cellsD]; rfl))) ?_
    | fail)
    refine run_again ?_
    refine ⟨⟨j + 1, by omega, fun i a' b' hi ha' hb' => ?_⟩, id, by simp only; omega, ?_⟩
    · by_cases e : i = j
      · subst e
        rw [ha] at ha'; rw [hb] at hb'
        cases ha'; cases hb'
        exact hs
      · exact hall i a' b' (by omega) ha' hb'
    (refine ⟨?_, ?_, by rfl⟩ <;> repeat' (first | exact trivial | exact ALe.ptr rfl | exact ALe.own rfl | exact ALe.elt rfl | exact BLe.boxD _ _ | exact BLe.row rfl | exact BLe.res | exact BLe.dead rfl | exact ALe.dat (PLe.refl _) | exact CLe.nil | refine And.intro ?_ ?_ | refine ALe.iface ?_ | refine ALe.clo ?_ | refine CLe.cons ?_ ?_ | refine BLe.box ?_ | refine BLe.row ?_ | exact ALe.any _ | refine ALe.dat (PLe.of_eq ?_)))
  · have g2 : decide (0 ≤ cmpS a b) = true := decide_eq_true (by omega)
    rw [srtK_no ha hb (by omega)]
    repeat' (first
    | refine run_seq ?_
    | (refine k_pick rfl ?_; first | refine k_assignD rfl rfl ?_ | refine k_moveD rfl rfl ?_ | refine k_fieldAddrB rfl rfl rfl ?_ | refine k_loadBD rfl rfl rfl (by first | rfl | (simp only [pdE, cellsD]; rfl)) ?_ | refine k_bin2B rfl rfl rfl rfl ?_ | refine k_lenD rfl rfl ?_)
    | refine run_opsEnd ?_
    | refine run_region ?_
    | refine run_condT rfl (by first | rfl | assumption) ?_
    | refine run_block ?_
    | refine run_skip ?_
    | refine run_retOk (resOk_tmp rfl rfl ?_)
    | refine run_drawC (by kernel_rfl) ?_
    | refine c_nil (And.intro (by kernel_rfl) ?_)
    | refine c_pick (d_indexAddrD rfl rfl rfl (by first | omega | (dsimp only; omega)) (by assumption)) ?_
    | refine c_pick (d_moveD rfl rfl) ?_
    | refine c_pick (d_fieldAddrB rfl rfl rfl) ?_
    | refine c_pick (d_loadBD rfl rfl rfl (by first | rfl | (simp only [pdE, cellsD]; rfl))) ?_
    | refine c_pick (d_bin2B rfl rfl rfl rfl) ?_
    | refine c_pick (d_call rfl (by kernel_rfl) rfl (by first | exact c2 | (simp only [← pdE]; exact c2))) ?_
    | refine c_pick (d_ariI rfl rfl rfl rfl (by first | omega | (dsimp only; omega))) ?_
    | refine c_pick (d_loadD rfl rfl (by first | rfl | (simp only [pdE, cellsD]; rfl))) ?_
    | fail)
    all_goals exact PLe.refl _
/-- spec.OrderlyElem. -/
def ordE (x : EV) : Bool := ordV (cleanE x).v && (ordL (cleanE x).l && srtK (cleanE (cleanE x)).keys)
theorem ordElem_p (x : EV) : PCall Tryz.prog 10 [pdE x] (.val (.bool (ordE x))) := by
  unfold ordE
  have c0 := cleanE_p x
  generalize cleanE x = y at *
  have c1 := ordV_p y.v
  have c2 := ordVals_q y.l
  have c3 := keySorted_p y
  unfold pdE at *
  unfold qV at c1
  generalize ordV y.v = b1 at *
  generalize ordL y.l = b2 at *
  generalize srtK (cleanE y).keys = b3 at *
  refine pcall_of_run Tryz.func10 rfl Tryz.ntmps10 rfl (fun X => ?_)
  cases b1 <;> cases b2
  all_goals
    repeat' (first
    | refine run_seq ?_
    | (refine k_pick rfl ?_; first | refine k_assignD rfl rfl ?_ | refine k_moveD rfl rfl ?_ | refine k_fieldAddrB rfl rfl rfl ?_ | refine k_loadW rfl rfl rfl (by first | rfl | (simp only [cellsD]; rfl)) ?_ | refine k_loadBD rfl rfl rfl (by first | rfl | (simp only [cellsD]; rfl)) ?_ | refine k_pickT rfl rfl (by first | rfl | assumption) rfl ?_ | refine k_pickF rfl rfl (by first | rfl | assumption) rfl ?_ | refine k_boxW rfl rfl rfl (by first | rfl | (simp only [cellsD]; rfl)) ?_ | refine k_call rfl (by kernel_rfl) rfl (by first | exact c0 | exact c1 | exact c2 | exact c3) ?_ | refine k_storeW rfl rfl rfl (by first | rfl | (simp only [cellsD]; rfl)) (by first | rfl | (simp only [cellsD]; rfl)) rfl ?_)
    | refine run_opsEnd ?_
    | refine run_region ?_
    | (refine k_guardY rfl rfl (by first | rfl | assumption) ?_; first | refine k_fieldAddrB rfl rfl rfl ?_ | refine k_loadW rfl rfl rfl (by first | rfl | (simp only [cellsD]; rfl)) ?_ | refine k_loadBD rfl rfl rfl (by first | rfl | (simp only [cellsD]; rfl)) ?_ | refine k_call rfl (by kernel_rfl) rfl (by first | exact c0 | exact c1 | exact c2 | exact c3) ?_)
    | refine k_guardNT rfl rfl (by first | rfl | assumption) rfl ?_
    | refine run_retOk (resOk_tmp rfl rfl ?_)
    | fail)
  all_goals exact PLe.refl _
theorem OPE_ord {x : EV} (h : JPE (toPE x)) (ho : ordE x = true) : OPE (toPE x) := by
  unfold ordE at ho
  simp only [Bool.and_eq_true] at ho
  exact OPE_of h ho.1 ho.2.1
def pdP (l : List EV) : PD := .sl 11 168 (l.map pdE)
def dvP (l : List PEV) : PD := .sl 4 32 (l.map dvPE)
set_option maxHeartbeats 8000000 in
theorem ordPaths_p (ps : List (List EV)) : PCall Tryz.prog 23 [.sl 1 24 (ps.map pdP)] (.val (.bool (ps.all fun p => p.all ordE))) := by
  refine pcall_fits fun hfit => ?_
  have b1 := (hfit (.sl 1 24 (ps.map pdP)) (by simp)).sl.2.1
  have b3 : ∀ p ∈ ps, p.length ≤ 140737488351232 := fun p hp => by
    have h := (hfit (.sl 1 24 (ps.map pdP)) (by simp)).sl.2.2 (pdP p) (List.mem_map.2 ⟨p, hp, rfl⟩)
    unfold pdP at h
    simpa using h.sl.2.1
  clear hfit
  have n1 : (ps.map pdP).length = ps.length := by simp
  have ga : ∀ {i : Nat} {p : List EV}, ps[i]? = some p → (ps.map pdP)[((i : Nat) : Int).toNat]? = some (pdP p) := fun h => by simp [h]
  rw [n1] at b1
  generalize ps.map pdP = da at *
  refine pcall_of_run Tryz.func23 rfl Tryz.ntmps23 rfl (fun X => ?_)
  repeat' (first
    | refine run_seq ?_
    | (refine k_pick rfl ?_; first | refine k_assignD rfl rfl ?_ | refine k_moveD rfl rfl ?_ | refine k_lenD rfl rfl ?_)
    | refine run_opsEnd ?_
    | refine run_region ?_
    | refine run_block ?_
    | fail)
  refine run_loopS (ι := { j : Nat // j ≤ ps.length ∧ ∀ i p, i < j → ps[i]? = some p → p.all ordE = true })
    (fun j => [(7, .dat (.sl 1 24 da)), (8, .dat (.val (.int .i64 ((da.length : Nat) : Int)))), (9, .dat (.val (.int .i64 (j.1 : Nat))))])
    (fun _ => []) (fun j => ps.length - j.1) ⟨0, Nat.zero_le _, fun i _ h => absurd h (Nat.not_lt_zero i)⟩ id ?_ ?_
  · (refine ⟨?_, ?_, by rfl⟩ <;> repeat' (first | exact trivial | exact ALe.ptr rfl | exact ALe.own rfl | exact ALe.elt rfl | exact BLe.boxD _ _ | exact BLe.row rfl | exact BLe.res | exact BLe.dead rfl | exact ALe.dat (PLe.refl _) | exact CLe.nil | refine And.intro ?_ ?_ | refine ALe.iface ?_ | refine ALe.clo ?_ | refine CLe.cons ?_ ?_ | refine BLe.box ?_ | refine BLe.row ?_ | exact ALe.any _ | refine ALe.dat (PLe.of_eq ?_)))
  rintro ⟨j, hj, hall⟩
  by_cases hlt : j < ps.length
  rotate_left
  · have g1 : decide ((j : Int) < ((da.length : Nat) : Int)) = false := decide_eq_false (by omega)
    have e : (ps.all fun p => p.all ordE) = true := List.all_eq_true.2 fun p hp => by
      obtain ⟨i, hi⟩ := List.getElem?_of_mem hp
      exact hall i p (by have := (List.getElem?_eq_some_iff.1 hi).1; omega) hi
    rw [e]
    repeat' (first
    | refine run_seq ?_
    | (refine k_pick rfl ?_; first | refine k_assignD rfl rfl ?_ | refine k_bin2B rfl rfl rfl rfl ?_)
    | refine run_opsEnd ?_
    | refine run_region ?_
    | refine run_condF rfl (by first | rfl | assumption) ?_
    | refine run_exit rfl ?_
    | refine run_retOk (resOk_tmp rfl rfl ?_)
    | fail)
    all_goals exact PLe.refl _
  have g1 : decide ((j : Int) < ((da.length : Nat) : Int)) = true := decide_eq_true (by omega)
  obtain ⟨p, hp⟩ : ∃ p, ps[j]? = some p := ⟨_, List.getElem?_eq_getElem hlt⟩
  have i1 := ga hp
  have b2 := b3 p (List.mem_of_getElem? hp)
  have n2 : (p.map pdE).length = p.length := by simp
  have gb : ∀ {i : Nat} {x : EV}, p[i]? = some x → (p.map pdE)[((i : Nat) : Int).toNat]? = some (pdE x) := fun h => by simp [h]
  unfold pdP at i1
  repeat' (first
    | refine run_seq ?_
    | (refine k_pick rfl ?_; first | refine k_indexAddrD rfl rfl rfl (by first | omega | (dsimp only; omega)) (by assumption) ?_ | refine k_assignD rfl rfl ?_ | refine k_moveD rfl rfl ?_ | refine k_bin2B rfl rfl rfl rfl ?_ | refine k_lenD rfl rfl ?_ | refine k_loadD rfl rfl (by first | rfl | (simp only [cellsD]; rfl)) ?_)
    | refine run_opsEnd ?_
    | refine run_region ?_
    | refine run_condT rfl (by first | rfl | assumption) ?_
    | refine run_block ?_
    | refine run_skip ?_
    | fail)
  refine run_loopS (ι := { q : Nat // q ≤ p.length ∧ ∀ i x, i < q → p[i]? = some x → ordE x = true })
    (fun q => [(7, .dat (.sl 1 24 da)), (8, .dat (.val (.int .i64 ((da.length : Nat) : Int)))), (9, .dat (.val (.int .i64 (j : Nat)))), (13, .dat (.sl 11 168 (p.map pdE))), (14, .dat (.val (.int .i64 (((p.map pdE).length : Nat) : Int)))), (15, .dat (.val (.int .i64 (q.1 : Nat))))])
    (fun _ => []) (fun q => p.length - q.1) ⟨0, Nat.zero_le _, fun i _ h => absurd h (Nat.not_lt_zero i)⟩ id ?_ ?_
  · (refine ⟨?_, ?_, by rfl⟩ <;> repeat' (first | exact trivial | exact ALe.ptr rfl | exact ALe.own rfl | exact ALe.elt rfl | exact BLe.boxD _ _ | exact BLe.row rfl | exact BLe.res | exact BLe.dead rfl | exact ALe.dat (PLe.refl _) | exact CLe.nil | refine And.intro ?_ ?_ | refine ALe.iface ?_ | refine ALe.clo ?_ | refine CLe.cons ?_ ?_ | refine BLe.box ?_ | refine BLe.row ?_ | exact ALe.any _ | refine ALe.dat (PLe.of_eq ?_)))
  rintro ⟨q, hq, hallq⟩
  by_cases hltq : q < p.length
  rotate_left
  · have g2 : decide ((q : Int) < (((p.map pdE).length : Nat) : Int)) = false := decide_eq_false (by omega)
    have e : p.all ordE = true := List.all_eq_true.2 fun x hx => by
      obtain ⟨i, hi⟩ := List.getElem?_of_mem hx
      exact hallq i x (by have := (List.getElem?_eq_some_iff.1 hi).1; omega) hi
    repeat' (first
    | refine run_seq ?_
    | (refine k_pick rfl ?_; first | refine k_moveD rfl rfl ?_ | refine k_bin2B rfl rfl rfl rfl ?_ | refine k_ariI rfl rfl rfl rfl (by first | omega | (dsimp only; omega)) ?_)
    | refine run_opsEnd ?_
    | refine run_region ?_
    | refine run_condF rfl (by first | rfl | assumption) ?_
    | refine run_blkEnd ?_
    | refine run_exit rfl ?_
    | fail)
    refine run_again ?_
    refine ⟨⟨j + 1, by omega, fun i p' hi hp' => ?_⟩, id, by simp only; omega, ?_⟩
    · by_cases e' : i = j
      · subst e'
        rw [hp] at hp'; cases hp'
        exact e
      · exact hall i p' (by omega) hp'
    (refine ⟨?_, ?_, by rfl⟩ <;> repeat' (first | exact trivial | exact ALe.ptr rfl | exact ALe.own rfl | exact ALe.elt rfl | exact BLe.boxD _ _ | exact BLe.row rfl | exact BLe.res | exact BLe.dead rfl | exact ALe.dat (PLe.refl _) | exact CLe.nil | refine And.intro ?_ ?_ | refine ALe.iface ?_ | refine ALe.clo ?_ | refine CLe.cons ?_ ?_ | refine BLe.box ?_ | refine BLe.row ?_ | exact ALe.any _ | refine ALe.dat (PLe.of_eq ?_)))
  have g2 : decide ((q : Int) < (((p.map pdE).length : Nat) : Int)) = true := decide_eq_true (by omega)
  obtain ⟨x, hx⟩ : ∃ x, p[q]? = some x := ⟨_, List.getElem?_eq_getElem hltq⟩
  have i2 := gb hx
  have c1 := ordElem_p x
  cases ho : ordE x with
  | true =>
    rw [ho] at c1
    repeat' (first
    | refine run_seq ?_
    | (refine k_pick rfl ?_; first | refine k_indexAddrD rfl rfl rfl (by first | omega | (dsimp only; omega)) (by assumption) ?_ | refine k_moveD rfl rfl ?_ | refine k_loadW rfl rfl rfl (by first | rfl | (simp only [pdE, cellsD]; rfl)) ?_ | refine k_bin2B rfl rfl rfl rfl ?_ | refine k_call rfl (by kernel_rfl) rfl (by first | exact c1 | (simp only [← pdE]; exact c1)) ?_ | refine k_not rfl rfl ?_ | refine k_storeW rfl rfl rfl (by first | rfl | (simp only [pdE, cellsD]; rfl)) (by first | rfl | (simp only [pdE, cellsD]; rfl)) rfl ?_ | refine k_ariI rfl rfl rfl rfl (by first | omega | (dsimp only; omega)) ?_ | refine k_loadD rfl rfl (by first | rfl | (simp only [pdE, cellsD]; rfl)) ?_ | refine k_alloc rfl rfl ?_)
    | refine run_opsEnd ?_
    | refine run_region ?_
    | refine run_condT rfl (by first | rfl | assumption) ?_
    | refine run_condF rfl (by first | rfl | assumption) ?_
    | refine run_block ?_
    | refine run_blkEnd ?_
    | refine run_skip ?_
    | fail)
    refine run_again ?_
    refine ⟨⟨q + 1, by omega, fun i x' hi hx' => ?_⟩, id, by simp only; omega, ?_⟩
    · by_cases e' : i = q
      · subst e'
        rw [hx] at hx'; cases hx'
        exact ho
      · exact hallq i x' (by omega) hx'
    (refine ⟨?_, ?_, by rfl⟩ <;> repeat' (first | exact trivial | exact ALe.ptr rfl | exact ALe.own rfl | exact ALe.elt rfl | exact BLe.boxD _ _ | exact BLe.row rfl | exact BLe.res | exact BLe.dead rfl | exact ALe.dat (PLe.refl _) | exact CLe.nil | refine And.intro ?_ ?_ | refine ALe.iface ?_ | refine ALe.clo ?_ | refine CLe.cons ?_ ?_ | refine BLe.box ?_ | refine BLe.row ?_ | exact ALe.any _ | refine ALe.dat (PLe.of_eq ?_)))
  | false =>
    rw [ho] at c1
    have e : (ps.all fun p => p.all ordE) = false := List.all_eq_false.2 ⟨p, List.mem_of_getElem? hp, by
      simp only [Bool.not_eq_true]
      exact List.all_eq_false.2 ⟨x, List.mem_of_getElem? hx, by simp [ho]⟩⟩
    rw [e]
    repeat' (first
    | refine run_seq ?_
    | (refine k_pick rfl ?_; first | refine k_indexAddrD rfl rfl rfl (by first | omega | (dsimp only; omega)) (by assumption) ?_ | refine k_assignD rfl rfl ?_ | refine k_loadW rfl rfl rfl (by first | rfl | (simp only [pdE, cellsD]; rfl)) ?_ | refine k_bin2B rfl rfl rfl rfl ?_ | refine k_call rfl (by kernel_rfl) rfl (by first | exact c1 | (simp only [← pdE]; exact c1)) ?_ | refine k_not rfl rfl ?_ | refine k_storeW rfl rfl rfl (by first | rfl | (simp only [pdE, cellsD]; rfl)) (by first | rfl | (simp only [pdE, cellsD]; rfl)) rfl ?_ | refine k_loadD rfl rfl (by first | rfl | (simp only [pdE, cellsD]; rfl)) ?_ | refine k_alloc rfl rfl ?_)
    | refine run_opsEnd ?_
    | refine run_region ?_
    | refine run_condT rfl (by first | rfl | assumption) ?_
    | refine run_block ?_
    | refine run_skip ?_
    | refine run_retOk (resOk_tmp rfl rfl ?_)
    | fail)
    all_goals exact PLe.refl _
theorem tame_p (p : List EV) : PCall Tryz.prog 15 [pdP p] (.val (.bool (p.all ordE))) := by
  have c := ordPaths_p [p]
  rw [show ([p].all fun p => p.all ordE) = p.all ordE by simp, show [p].map pdP = [pdP p] from rfl] at c
  unfold pdP at *
  refine pcall_of_run Tryz.func15 rfl Tryz.ntmps15 rfl (fun X => ?_)
  repeat' (first
    | refine run_seq ?_
    | (refine k_pick rfl ?_; first | refine k_buildSliceF rfl (by kernel_rfl) rfl rfl rfl rfl rfl ?_ | refine k_assignD rfl rfl ?_ | refine k_moveD rfl rfl ?_ | refine k_call rfl (by kernel_rfl) rfl (by first | exact c) ?_)
    | refine run_opsEnd ?_
    | refine run_region ?_
    | refine run_retOk (resOk_tmp rfl rfl ?_)
    | fail)
  all_goals exact PLe.refl _
theorem dvPE_agg (p : PEV) : ∃ d0 d1 d2 d3, dvPE p = .agg [d0, d1, d2, d3] := by cases p <;> exact ⟨_, _, _, _, rfl⟩
set_option maxHeartbeats 8000000 in
theorem toPath_p (l : List EV) : PCall Tryz.prog 51 [pdP l] (dvP (l.map toPE)) := by
  refine pcall_fits fun hfit => ?_
  unfold pdP dvP at *
  have b0 := (hfit (.sl 11 168 (l.map pdE)) (by simp)).sl
  clear hfit
  have n1 : (l.map pdE).length = l.length := by simp
  have b1 := b0.1
  have b2 := b0.2.1
  rw [n1] at b1 b2
  clear b0
  have ga : ∀ {i : Nat} {x : EV}, l[i]? = some x → (l.map pdE)[((i : Nat) : Int).toNat]? = some (pdE x) := fun h => by simp [h]
  refine pcall_of_run Tryz.func51 rfl Tryz.ntmps51 rfl (fun X => ?_)
  repeat' (first
    | refine run_seq ?_
    | (refine k_pick rfl ?_; first | refine k_assignD rfl rfl ?_ | refine k_moveD rfl rfl ?_ | refine k_lenD rfl rfl ?_ | refine k_assignO rfl rfl ?_ | refine k_buildSlice rfl rfl (by kernel_rfl) rfl rfl rfl rfl rfl ?_)
    | refine run_opsEnd ?_
    | refine run_region ?_
    | refine run_block ?_
    | fail)
  refine run_loopS (ι := { k : Nat // k ≤ l.length })
    (fun k => [(3, .own 100), (7, .dat (.sl 11 168 (l.map pdE))), (8, .dat (.val (.int .i64 (((l.map pdE).length : Nat) : Int)))), (9, .dat (.val (.int .i64 (k.1 : Nat))))])
    (fun k => [(100, .row 63 4 32 ((l.take k.1).map fun x => dvPE (toPE x)))]) (fun k => l.length - k.1) ⟨0, Nat.zero_le _⟩ (fun j => if j = 100 then 6 else j) ?_ ?_
  · (refine ⟨?_, ?_, by rfl⟩ <;> repeat' (first | exact trivial | exact ALe.ptr rfl | exact ALe.own rfl | exact ALe.elt rfl | exact BLe.boxD _ _ | exact BLe.row rfl | exact BLe.res | exact BLe.dead rfl | exact ALe.dat (PLe.refl _) | exact CLe.nil | refine And.intro ?_ ?_ | refine ALe.iface ?_ | refine ALe.clo ?_ | refine CLe.cons ?_ ?_ | refine BLe.box ?_ | refine BLe.row ?_ | exact ALe.any _ | refine ALe.dat (PLe.of_eq ?_)))
  rintro ⟨k, hk⟩
  by_cases hlt : k < l.length
  · have hc : decide ((k : Int) < (((l.map pdE).length : Nat) : Int)) = true := decide_eq_true (by omega)
    obtain ⟨x, hx⟩ : ∃ x, l[k]? = some x := ⟨_, List.getElem?_eq_getElem hlt⟩
    have hi := ga hx
    have c1 := toElem_v x
    obtain ⟨d0, d1, d2, d3, e⟩ := dvPE_agg (toPE x)
    rw [e] at c1
    have hbt : (((l.take k).map fun x => dvPE (toPE x)).length + [PD.agg [d0, d1, d2, d3]].length) * 32 ≤ 140737488351232 := by simp; omega
    have hbl : ((l.take k).map fun x => dvPE (toPE x)).length + [PD.agg [d0, d1, d2, d3]].length ≤ 140737488351232 := by simp; omega
    repeat' (first
    | refine run_seq ?_
    | (refine k_pick rfl ?_; first | refine k_indexAddrD rfl rfl rfl (by first | omega | (dsimp only; omega)) (by assumption) ?_ | refine k_appendOO rfl rfl rfl rfl rfl rfl (by kernel_rfl) rfl rfl hbt hbl ?_ | refine k_moveD rfl rfl ?_ | refine k_loadW rfl rfl rfl (by first | rfl | (simp only [pdE, cellsD]; rfl)) ?_ | refine k_bin2B rfl rfl rfl rfl ?_ | refine k_call rfl (by kernel_rfl) rfl (by first | exact c1 | (simp only [← pdE]; exact c1)) ?_ | refine k_storeW rfl rfl rfl (by first | rfl | (simp only [pdE, cellsD]; rfl)) (by first | rfl | (simp only [pdE, cellsD]; rfl)) rfl ?_ | refine k_ariI rfl rfl rfl rfl (by first | omega | (dsimp only; omega)) ?_ | refine k_loadD rfl rfl (by first | rfl | (simp only [pdE, cellsD]; rfl)) ?_ | refine k_alloc rfl rfl ?_ | refine k_assignO rfl rfl ?_ | refine k_moveO rfl rfl ?_ | refine k_buildSlice rfl rfl (by kernel_rfl) rfl rfl rfl rfl rfl ?_)
    | refine run_opsEnd ?_
    | refine run_region ?_
    | refine run_condT rfl (by first | rfl | assumption) ?_
    | refine run_block ?_
    | refine run_blkEnd ?_
    | refine run_skip ?_
    | fail)
    refine run_again ?_
    refine ⟨⟨k + 1, by omega⟩, (fun j => if j = 100 then 17 else j), by simp only; omega, ?_⟩
    (refine ⟨?_, ?_, by rfl⟩ <;> repeat' (first | exact trivial | exact ALe.ptr rfl | exact ALe.own rfl | exact ALe.elt rfl | exact BLe.boxD _ _ | exact BLe.row rfl | exact BLe.res | exact BLe.dead rfl | exact ALe.dat (PLe.refl _) | exact CLe.nil | refine And.intro ?_ ?_ | refine ALe.iface ?_ | refine ALe.clo ?_ | refine CLe.cons ?_ ?_ | refine BLe.box ?_ | refine BLe.row ?_ | exact ALe.any _ | refine ALe.dat (PLe.of_eq ?_)))
    all_goals (simp [List.take_add_one, hx, e])
  · have hc : decide ((k : Int) < (((l.map pdE).length : Nat) : Int)) = false := decide_eq_false (by omega)
    have hkk : l.take k = l := List.take_of_length_le (by omega)
    simp only [hkk]
    refine run_frz (fun _ => false) (fun k => k == 100) ?_
    repeat' (first
    | refine run_seq ?_
    | (refine k_pick rfl ?_; first | refine k_assignD rfl rfl ?_ | refine k_moveD rfl rfl ?_ | refine k_bin2B rfl rfl rfl rfl ?_)
    | refine run_opsEnd ?_
    | refine run_region ?_
    | refine run_condF rfl (by first | rfl | assumption) ?_
    | refine run_exit rfl ?_
    | refine run_retOk (resOk_tmp rfl rfl ?_)
    | fail)
    all_goals exact PLe.of_eq (by rw [List.map_map]; rfl)
set_option maxHeartbeats 8000000 in
theorem pathCompare_p (a b : List PEV) : PCall Tryz.prog 52 [dvP a, dvP b] (.val (.int .i64 (cmpLx cmpPE a b))) := by
  refine pcall_fits fun hfit => ?_
  unfold dvP at hfit ⊢
  have b1 := (hfit (.sl 4 32 (a.map dvPE)) (by simp)).sl.2.1
  clear hfit
  have la : (a.map dvPE).length = a.length := by simp
  have lb : (b.map dvPE).length = b.length := by simp
  have ga : ∀ {i : Nat} {f : PEV}, a[i]? = some f → (a.map dvPE)[((i : Nat) : Int).toNat]? = some (dvPE f) := fun h => by simp [h]
  have gb : ∀ {i : Nat} {f : PEV}, b[i]? = some f → (b.map dvPE)[((i : Nat) : Int).toNat]? = some (dvPE f) := fun h => by simp [h]
  rw [la] at b1
  generalize a.map dvPE = da at *
  generalize b.map dvPE = db at *
  refine pcall_of_run Tryz.func52 rfl Tryz.ntmps52 rfl (fun X => ?_)
  repeat' (first
    | refine run_seq ?_
    | (refine k_pick rfl ?_; refine k_assignD rfl rfl ?_)
    | refine run_opsEnd ?_
    | refine run_region ?_
    | refine run_block ?_
    | fail)
  refine run_loopS (ι := { j : Nat // (j ≤ a.length ∧ j ≤ b.length) ∧ ∀ i x y, i < j → a[i]? = some x → b[i]? = some y → cmpPE x y = 0 })
    (fun j => [(0, .dat (.sl 4 32 da)), (1, .dat (.sl 4 32 db)), (5, .dat (.val (.int .i64 (j.1 : Nat))))])
    (fun _ => []) (fun j => a.length - j.1) ⟨0, ⟨Nat.zero_le _, Nat.zero_le _⟩, fun i _ _ h => absurd h (Nat.not_lt_zero i)⟩ id ?_ ?_
  · (refine ⟨?_, ?_, by rfl⟩ <;> repeat' (first | exact trivial | exact ALe.ptr rfl | exact ALe.own rfl | exact ALe.elt rfl | exact BLe.boxD _ _ | exact BLe.row rfl | exact BLe.res | exact BLe.dead rfl | exact ALe.dat (PLe.refl _) | exact CLe.nil | refine And.intro ?_ ?_ | refine ALe.iface ?_ | refine ALe.clo ?_ | refine CLe.cons ?_ ?_ | refine BLe.box ?_ | refine BLe.row ?_ | exact ALe.any _ | refine ALe.dat (PLe.of_eq ?_)))
  rintro ⟨j, ⟨hj, hj'⟩, hall⟩
  have hend : j = a.length ∨ j = b.length → cmpLx cmpPE a b = cmpI a.length b.length := fun h => cmpLx_end hj hj' hall h
  by_cases hlt : j < a.length
  · have g1 : decide (((da.length : Nat) : Int) ≤ (j : Int)) = false := decide_eq_false (by omega)
    by_cases hlt' : j < b.length
    · have g2 : decide (((db.length : Nat) : Int) ≤ (j : Int)) = false := decide_eq_false (by omega)
      obtain ⟨x, hx⟩ : ∃ x, a[j]? = some x := ⟨_, List.getElem?_eq_getElem hlt⟩
      obtain ⟨y, hy⟩ : ∃ y, b[j]? = some y := ⟨_, List.getElem?_eq_getElem hlt'⟩
      have i1 := ga hx
      have i2 := gb hy
      have c1 := peCompare_p x y
      have f1 : fitsD true 4 (dvPE x) = true := by cases x <;> rfl
      have f2 : fitsD true 4 (dvPE y) = true := by cases y <;> rfl
      by_cases hs : cmpPE x y = 0
      · have g3 : decide (cmpPE x y ≠ 0) = false := decide_eq_false (by simp [hs])
        repeat' (first
    | refine run_seq ?_
    | (refine k_pick rfl ?_; first | refine k_assignD rfl rfl ?_ | refine k_moveD rfl rfl ?_ | refine k_bin2B rfl rfl rfl rfl ?_ | refine k_pickF rfl rfl (by first | rfl | assumption) rfl ?_ | refine k_lenD rfl rfl ?_ | refine k_ariI rfl rfl rfl rfl (by first | omega | (dsimp only; omega)) ?_)
    | refine run_opsEnd ?_
    | refine run_region ?_
    | refine run_condF rfl (by first | rfl | assumption) ?_
    | refine k_guardNT rfl rfl (by first | rfl | assumption) rfl ?_
    | refine run_block ?_
    | refine run_blkEnd ?_
    | refine run_skip ?_
    | refine run_drawC (by kernel_rfl) ?_
    | refine c_nil (And.intro (by kernel_rfl) ?_)
    | refine c_pick (d_indexAddrD rfl rfl rfl (by first | omega | (dsimp only; omega)) (by assumption)) ?_
    | refine c_pick (d_loadD rfl rfl (by first | rfl | assumption)) ?_
    | refine c_pick (d_assignD rfl rfl) ?_
    | refine c_pick (d_moveD rfl rfl) ?_
    | refine c_pick (d_call rfl (by kernel_rfl) rfl (by first | exact c1)) ?_
    | fail)
        refine run_again ?_
        refine ⟨⟨j + 1, ⟨by omega, by omega⟩, fun i x' y' hi hx' hy' => ?_⟩, id, by simp only; omega, ?_⟩
        · by_cases e : i = j
          · subst e
            rw [hx] at hx'; rw [hy] at hy'
            cases hx'; cases hy'
            exact hs
          · exact hall i x' y' (by omega) hx' hy'
        (refine ⟨?_, ?_, by rfl⟩ <;> repeat' (first | exact trivial | exact ALe.ptr rfl | exact ALe.own rfl | exact ALe.elt rfl | exact BLe.boxD _ _ | exact BLe.row rfl | exact BLe.res | exact BLe.dead rfl | exact ALe.dat (PLe.refl _) | exact CLe.nil | refine And.intro ?_ ?_ | refine ALe.iface ?_ | refine ALe.clo ?_ | refine CLe.cons ?_ ?_ | refine BLe.box ?_ | refine BLe.row ?_ | exact ALe.any _ | refine ALe.dat (PLe.of_eq ?_)))
      · have g3 : decide (cmpPE x y ≠ 0) = true := decide_eq_true hs
        rw [cmpLx_at hall hx hy hs]
        repeat' (first
    | refine run_seq ?_
    | (refine k_pick rfl ?_; first | refine k_assignD rfl rfl ?_ | refine k_moveD rfl rfl ?_ | refine k_bin2B rfl rfl rfl rfl ?_ | refine k_pickF rfl rfl (by first | rfl | assumption) rfl ?_ | refine k_lenD rfl rfl ?_)
    | refine run_opsEnd ?_
    | refine run_region ?_
    | refine run_condT rfl (by first | rfl | assumption) ?_
    | refine run_condF rfl (by first | rfl | assumption) ?_
    | refine k_guardNT rfl rfl (by first | rfl | assumption) rfl ?_
    | refine run_block ?_
    | refine run_skip ?_
    | refine run_retOk (resOk_tmp rfl rfl ?_)
    | refine run_drawC (by kernel_rfl) ?_
    | refine c_nil (And.intro (by kernel_rfl) ?_)
    | refine c_pick (d_indexAddrD rfl rfl rfl (by first | omega | (dsimp only; omega)) (by assumption)) ?_
    | refine c_pick (d_loadD rfl rfl (by first | rfl | assumption)) ?_
    | refine c_pick (d_assignD rfl rfl) ?_
    | refine c_pick (d_moveD rfl rfl) ?_
    | refine c_pick (d_call rfl (by kernel_rfl) rfl (by first | exact c1)) ?_
    | fail)
        all_goals exact PLe.refl _
    · have g2 : decide (((db.length : Nat) : Int) ≤ (j : Int)) = true := decide_eq_true (by omega)
      rw [hend (.inr (by omega)), cmpI_gt (by omega)]
      repeat' (first
    | refine run_seq ?_
    | (refine k_pick rfl ?_; first | refine k_assignD rfl rfl ?_ | refine k_moveD rfl rfl ?_ | refine k_bin2B rfl rfl rfl rfl ?_ | refine k_pickF rfl rfl (by first | rfl | assumption) rfl ?_ | refine k_lenD rfl rfl ?_)
    | refine run_opsEnd ?_
    | refine run_region ?_
    | refine run_condT rfl (by first | rfl | assumption) ?_
    | refine run_condF rfl (by first | rfl | assumption) ?_
    | refine k_guardNT rfl rfl (by first | rfl | assumption) rfl ?_
    | refine run_block ?_
    | refine run_skip ?_
    | refine run_retOk (resOk_tmp rfl rfl ?_)
    | fail)
      all_goals exact PLe.refl _
  · have g1 : decide (((da.length : Nat) : Int) ≤ (j : Int)) = true := decide_eq_true (by omega)
    by_cases hlt' : j < b.length
    · have g2 : decide (((db.length : Nat) : Int) ≤ (j : Int)) = false := decide_eq_false (by omega)
      rw [hend (.inl (by omega)), cmpI_lt (by omega)]
      repeat' (first
    | refine run_seq ?_
    | (refine k_pick rfl ?_; first | refine k_assignD rfl rfl ?_ | refine k_moveD rfl rfl ?_ | refine k_bin2B rfl rfl rfl rfl ?_ | refine k_pickT rfl rfl (by first | rfl | assumption) rfl ?_ | refine k_lenD rfl rfl ?_)
    | refine run_opsEnd ?_
    | refine run_region ?_
    | refine run_condT rfl (by first | rfl | assumption) ?_
    | refine run_condF rfl (by first | rfl | assumption) ?_
    | (refine k_guardY rfl rfl (by first | rfl | assumption) ?_; first | refine k_moveD rfl rfl ?_ | refine k_bin2B rfl rfl rfl rfl ?_ | refine k_lenD rfl rfl ?_)
    | refine run_block ?_
    | refine run_skip ?_
    | refine run_retOk (resOk_tmp rfl rfl ?_)
    | fail)
      all_goals exact PLe.refl _
    · have g2 : decide (((db.length : Nat) : Int) ≤ (j : Int)) = true := decide_eq_true (by omega)
      rw [hend (.inl (by omega)), cmpI_zero.2 (by omega)]
      repeat' (first
    | refine run_seq ?_
    | (refine k_pick rfl ?_; first | refine k_assignD rfl rfl ?_ | refine k_moveD rfl rfl ?_ | refine k_bin2B rfl rfl rfl rfl ?_ | refine k_pickT rfl rfl (by first | rfl | assumption) rfl ?_ | refine k_lenD rfl rfl ?_)
    | refine run_opsEnd ?_
    | refine run_region ?_
    | refine run_condT rfl (by first | rfl | assumption) ?_
    | (refine k_guardY rfl rfl (by first | rfl | assumption) ?_; first | refine k_moveD rfl rfl ?_ | refine k_bin2B rfl rfl rfl rfl ?_ | refine k_lenD rfl rfl ?_)
    | refine run_block ?_
    | refine run_retOk (resOk_tmp rfl rfl ?_)
    | fail)
      all_goals exact PLe.refl _
set_option maxHeartbeats 8000000 in
theorem pathEquals_p (a b : List PEV) : PCall Tryz.prog 57 [dvP a, dvP b] (.val (.bool (eqLx eqPE a b))) := by
  refine pcall_fits fun hfit => ?_
  unfold dvP at hfit ⊢
  have b1 := (hfit (.sl 4 32 (a.map dvPE)) (by simp)).sl.2.1
  clear hfit
  have la : (a.map dvPE).length = a.length := by simp
  have lb : (b.map dvPE).length = b.length := by simp
  have ga : ∀ {i : Nat} {f : PEV}, a[i]? = some f → (a.map dvPE)[((i : Nat) : Int).toNat]? = some (dvPE f) := fun h => by simp [h]
  have gb : ∀ {i : Nat} {f : PEV}, b[i]? = some f → (b.map dvPE)[((i : Nat) : Int).toNat]? = some (dvPE f) := fun h => by simp [h]
  rw [la] at b1
  generalize a.map dvPE = da at *
  generalize b.map dvPE = db at *
  refine pcall_of_run Tryz.func57 rfl Tryz.ntmps57 rfl (fun X => ?_)
  by_cases hl : a.length = b.length
  rotate_left
  · have g1 : decide (((da.length : Nat) : Int) ≠ ((db.length : Nat) : Int)) = true := decide_eq_true (by omega)
    rw [eqLx_len hl]
    repeat' (first
    | refine run_seq ?_
    | (refine k_pick rfl ?_; first | refine k_assignD rfl rfl ?_ | refine k_moveD rfl rfl ?_ | refine k_bin2B rfl rfl rfl rfl ?_ | refine k_lenD rfl rfl ?_)
    | refine run_opsEnd ?_
    | refine run_region ?_
    | refine run_condT rfl (by first | rfl | assumption) ?_
    | refine run_retOk (resOk_tmp rfl rfl ?_)
    | fail)
    all_goals exact PLe.refl _
  have g1 : decide (((da.length : Nat) : Int) ≠ ((db.length : Nat) : Int)) = false := decide_eq_false (by omega)
  repeat' (first
    | refine run_seq ?_
    | (refine k_pick rfl ?_; first | refine k_assignD rfl rfl ?_ | refine k_moveD rfl rfl ?_ | refine k_bin2B rfl rfl rfl rfl ?_ | refine k_lenD rfl rfl ?_)
    | refine run_opsEnd ?_
    | refine run_region ?_
    | refine run_condF rfl (by first | rfl | assumption) ?_
    | refine run_block ?_
    | refine run_skip ?_
    | fail)
  refine run_loopS (ι := { j : Nat // j ≤ a.length ∧ ∀ i x y, i < j → a[i]? = some x → b[i]? = some y → eqPE x y = true })
    (fun j => [(0, .dat (.sl 4 32 da)), (1, .dat (.sl 4 32 db)), (12, .dat (.val (.int .i64 ((da.length : Nat) : Int)))), (13, .dat (.val (.int .i64 (j.1 : Nat))))])
    (fun _ => []) (fun j => a.length - j.1) ⟨0, Nat.zero_le _, fun i _ _ h => absurd h (Nat.not_lt_zero i)⟩ id ?_ ?_
  · (refine ⟨?_, ?_, by rfl⟩ <;> repeat' (first | exact trivial | exact ALe.ptr rfl | exact ALe.own rfl | exact ALe.elt rfl | exact BLe.boxD _ _ | exact BLe.row rfl | exact BLe.res | exact BLe.dead rfl | exact ALe.dat (PLe.refl _) | exact CLe.nil | refine And.intro ?_ ?_ | refine ALe.iface ?_ | refine ALe.clo ?_ | refine CLe.cons ?_ ?_ | refine BLe.box ?_ | refine BLe.row ?_ | exact ALe.any _ | refine ALe.dat (PLe.of_eq ?_)))
  rintro ⟨j, hj, hall⟩
  by_cases hlt : j < a.length
  · have g2 : decide ((j : Int) < ((da.length : Nat) : Int)) = true := decide_eq_true (by omega)
    obtain ⟨x, hx⟩ : ∃ x, a[j]? = some x := ⟨_, List.getElem?_eq_getElem hlt⟩
    obtain ⟨y, hy⟩ : ∃ y, b[j]? = some y := ⟨_, List.getElem?_eq_getElem (by omega)⟩
    have i1 := ga hx
    have i2 := gb hy
    have c2 := peEquals_p x y
    have f1 : fitsD true 4 (dvPE x) = true := by cases x <;> rfl
    have f2 : fitsD true 4 (dvPE y) = true := by cases y <;> rfl
    cases hv : eqPE x y with
    | true =>
      rw [hv] at c2
      repeat' (first
    | refine run_seq ?_
    | (refine k_pick rfl ?_; first | refine k_assignD rfl rfl ?_ | refine k_moveD rfl rfl ?_ | refine k_bin2B rfl rfl rfl rfl ?_ | refine k_ariI rfl rfl rfl rfl (by first | omega | (dsimp only; omega)) ?_)
    | refine run_opsEnd ?_
    | refine run_region ?_
    | refine run_condT rfl (by first | rfl | assumption) ?_
    | refine run_condF rfl (by first | rfl | assumption) ?_
    | refine run_block ?_
    | refine run_blkEnd ?_
    | refine run_skip ?_
    | refine run_drawC (by kernel_rfl) ?_
    | refine c_nil (And.intro (by kernel_rfl) ?_)
    | refine c_pick (d_indexAddrD rfl rfl rfl (by first | omega | (dsimp only; omega)) (by assumption)) ?_
    | refine c_pick (d_loadD rfl rfl (by first | rfl | assumption)) ?_
    | refine c_pick (d_moveD rfl rfl) ?_
    | refine c_pick (d_call rfl (by kernel_rfl) rfl (by first | exact c2)) ?_
    | refine c_pick (d_not rfl rfl) ?_
    | fail)
      refine run_again ?_
      refine ⟨⟨j + 1, by omega, fun i x' y' hi hx' hy' => ?_⟩, id, by simp only; omega, ?_⟩
      · by_cases e : i = j
        · subst e
          rw [hx] at hx'; rw [hy] at hy'
          cases hx'; cases hy'
          exact hv
        · exact hall i x' y' (by omega) hx' hy'
      (refine ⟨?_, ?_, by rfl⟩ <;> repeat' (first | exact trivial | exact ALe.ptr rfl | exact ALe.own rfl | exact ALe.elt rfl | exact BLe.boxD _ _ | exact BLe.row rfl | exact BLe.res | exact BLe.dead rfl | exact ALe.dat (PLe.refl _) | exact CLe.nil | refine And.intro ?_ ?_ | refine ALe.iface ?_ | refine ALe.clo ?_ | refine CLe.cons ?_ ?_ | refine BLe.box ?_ | refine BLe.row ?_ | exact ALe.any _ | refine ALe.dat (PLe.of_eq ?_)))
    | false =>
      rw [hv] at c2
      rw [eqLx_no hx hy hv]
      repeat' (first
    | refine run_seq ?_
    | (refine k_pick rfl ?_; first | refine k_assignD rfl rfl ?_ | refine k_moveD rfl rfl ?_ | refine k_bin2B rfl rfl rfl rfl ?_)
    | refine run_opsEnd ?_
    | refine run_region ?_
    | refine run_condT rfl (by first | rfl | assumption) ?_
    | refine run_block ?_
    | refine run_skip ?_
    | refine run_retOk (resOk_tmp rfl rfl ?_)
    | refine run_drawC (by kernel_rfl) ?_
    | refine c_nil (And.intro (by kernel_rfl) ?_)
    | refine c_pick (d_indexAddrD rfl rfl rfl (by first | omega | (dsimp only; omega)) (by assumption)) ?_
    | refine c_pick (d_loadD rfl rfl (by first | rfl | assumption)) ?_
    | refine c_pick (d_moveD rfl rfl) ?_
    | refine c_pick (d_call rfl (by kernel_rfl) rfl (by first | exact c2)) ?_
    | refine c_pick (d_not rfl rfl) ?_
    | fail)
      all_goals exact PLe.refl _
  · have g2 : decide ((j : Int) < ((da.length : Nat) : Int)) = false := decide_eq_false (by omega)
    rw [eqLx_all hl (fun i x y hx hy => hall i x y (by have := (List.getElem?_eq_some_iff.1 hx).1; omega) hx hy)]
    repeat' (first
    | refine run_seq ?_
    | (refine k_pick rfl ?_; first | refine k_assignD rfl rfl ?_ | refine k_bin2B rfl rfl rfl rfl ?_)
    | refine run_opsEnd ?_
    | refine run_region ?_
    | refine run_condF rfl (by first | rfl | assumption) ?_
    | refine run_exit rfl ?_
    | refine run_retOk (resOk_tmp rfl rfl ?_)
    | fail)
    all_goals exact PLe.refl _
theorem implCmpPaths_p (a b : List EV) : PCall Tryz.prog 20 [pdP a, pdP b] (.val (.int .i64 (cmpLx cmpPE (a.map toPE) (b.map toPE)))) := by
  have c1 := toPath_p a
  have c2 := toPath_p b
  have c3 := pathCompare_p (a.map toPE) (b.map toPE)
  refine pcall_of_run Tryz.func20 rfl Tryz.ntmps20 rfl (fun X => ?_)
  repeat' (first
    | refine run_seq ?_
    | (refine k_pick rfl ?_; first | refine k_assignD rfl rfl ?_ | refine k_moveD rfl rfl ?_ | refine k_call rfl (by kernel_rfl) rfl (by first | exact c1 | exact c2 | exact c3) ?_)
    | refine run_opsEnd ?_
    | refine run_region ?_
    | refine run_retOk (resOk_tmp rfl rfl ?_)
    | fail)
  all_goals exact PLe.refl _
theorem implEqPaths_p (a b : List EV) : PCall Tryz.prog 22 [pdP a, pdP b] (.val (.bool (eqLx eqPE (a.map toPE) (b.map toPE)))) := by
  have c1 := toPath_p a
  have c2 := toPath_p b
  have c3 := pathEquals_p (a.map toPE) (b.map toPE)
  refine pcall_of_run Tryz.func22 rfl Tryz.ntmps22 rfl (fun X => ?_)
  repeat' (first
    | refine run_seq ?_
    | (refine k_pick rfl ?_; first | refine k_assignD rfl rfl ?_ | refine k_moveD rfl rfl ?_ | refine k_call rfl (by kernel_rfl) rfl (by first | exact c1 | exact c2 | exact c3) ?_)
    | refine run_opsEnd ?_
    | refine run_region ?_
    | refine run_retOk (resOk_tmp rfl rfl ?_)
    | fail)
  all_goals exact PLe.refl _
end Go.Proofs.YtbbacpdbbmjblaaGreat
end
section
set_option linter.unusedVariables false
namespace Go.Proofs.YtbbacpdbbmjblaaGreat
open Go.RowKit
set_option linter.unusedSimpArgs false
set_option maxHeartbeats 8000000 in
/-- laws.under: a path and one element, in memory of its own. -/
theorem under_c (p : List EV) (x : EV) (h : (p.length + 1) * 168 ≤ 140737488351232) : ACall1 Tryz.prog 19 [.dat (pdP p), .dat (pdE x)] [] (.own 0) [(0, .row 29 11 168 (p.map pdE ++ [pdE x]))] := by
  unfold pdP
  have n1 : (p.map pdE).length = p.length := by simp
  obtain ⟨d0, d1, d2, d3, d4, d5, d6, d7, d8, d9, d10, e⟩ : ∃ d0 d1 d2 d3 d4 d5 d6 d7 d8 d9 d10 : PD, pdE x = .agg [d0, d1, d2, d3, d4, d5, d6, d7, d8, d9, d10] := ⟨_, _, _, _, _, _, _, _, _, _, _, rfl⟩
  rw [e]
  generalize p.map pdE = lp at *
  have q1 : (([] : List PD).length + lp.length) * 168 ≤ 140737488351232 := by simp only [List.length_nil]; omega
  have q2 : ([] : List PD).length + lp.length ≤ 140737488351232 := by simp only [List.length_nil]; omega
  have q3 : (([] ++ lp).length + [PD.agg [d0, d1, d2, d3, d4, d5, d6, d7, d8, d9, d10]].length) * 168 ≤ 140737488351232 := by simp only [List.nil_append, List.length_cons, List.length_nil]; omega
  have q4 : ([] ++ lp).length + [PD.agg [d0, d1, d2, d3, d4, d5, d6, d7, d8, d9, d10]].length ≤ 140737488351232 := by simp only [List.nil_append, List.length_cons, List.length_nil]; omega
  refine acall_of_run Tryz.func19 rfl Tryz.ntmps19 rfl (fun X => ?_)
  repeat' (first
    | refine run_seq ?_
    | (refine k_pick rfl ?_; first | refine k_assignD rfl rfl ?_ | refine k_boxW rfl rfl rfl (by first | rfl | (simp only [cellsD]; rfl)) ?_)
    | refine run_opsEnd ?_
    | refine run_region ?_
    | refine run_drawC (by kernel_rfl) ?_
    | refine c_nil (And.intro (by kernel_rfl) ?_)
    | refine c_pick (d_appendOD rfl rfl rfl rfl rfl (by kernel_rfl) rfl rfl (by assumption) (by assumption)) ?_
    | refine c_pick (d_appendOO rfl rfl rfl rfl rfl rfl (by kernel_rfl) rfl rfl (by assumption) (by assumption)) ?_
    | refine c_pick (d_moveD rfl rfl) ?_
    | refine c_pick (d_loadW rfl rfl rfl (by first | rfl | (simp only [cellsD]; rfl))) ?_
    | refine c_pick (d_assignO rfl rfl) ?_
    | refine c_pick (d_buildSlice rfl rfl (by kernel_rfl) rfl rfl rfl rfl rfl) ?_
    | fail)
  refine run_retA () (fun _ => 10) (tm := [(4, .own 0)]) ?_ (resA_tmp rfl rfl)
  (refine ⟨?_, ?_, by rfl⟩ <;> repeat' (first | exact trivial | exact ALe.ptr rfl | exact ALe.own rfl | exact ALe.elt rfl | exact BLe.boxD _ _ | exact BLe.row rfl | exact BLe.res | exact BLe.dead rfl | exact ALe.dat (PLe.refl _) | exact CLe.nil | refine And.intro ?_ ?_ | refine ALe.iface ?_ | refine ALe.clo ?_ | refine CLe.cons ?_ ?_ | refine BLe.box ?_ | refine BLe.row ?_ | exact ALe.any _ | refine ALe.dat (PLe.of_eq ?_)))
set_option maxHeartbeats 8000000 in
theorem lawFE_p (be : List EV) (x y : EV) (a b : List EV) : PCall Tryz.prog 5 [pdP be, pdE x, pdE y, pdP a, pdP b] (.val (.bool true)) := by
  refine pcall_fits fun hf => ?_
  have f1 := hf (pdP be) (by simp)
  have f2 := hf (pdE x) (by simp)
  have f3 := hf (pdE y) (by simp)
  have f4 := hf (pdP a) (by simp)
  have f5 := hf (pdP b) (by simp)
  clear hf
  unfold pdP at f1 f4 f5
  have n1 : (be.map pdE).length = be.length := by simp
  have n2 : (a.map pdE).length = a.length := by simp
  have n3 : (b.map pdE).length = b.length := by simp
  obtain ⟨b1, c1⟩ := fits13_p x
  obtain ⟨b2, c2⟩ := fits13_p y
  have c3 := tame_p be
  have c4 := ordElem_p x
  have c5 := ordElem_p y
  have c6 := eqElems_p x y
  unfold pdP at c3 ⊢
  by_cases h1 : 2147483647 < be.length
  · have g1 : decide ((2147483647 : Int) < (((be.map pdE).length : Nat) : Int)) = true := decide_eq_true (by omega)
    refine pcall_of_run Tryz.func5 rfl Tryz.ntmps5 rfl (fun X => ?_)
    repeat' (first
    | refine run_seq ?_
    | (refine k_pick rfl ?_; first | refine k_assignD rfl rfl ?_ | refine k_moveD rfl rfl ?_ | refine k_bin2B rfl rfl rfl rfl ?_ | refine k_pickT rfl rfl (by first | rfl | assumption) rfl ?_ | refine k_boxW rfl rfl rfl (by first | rfl | (simp only [pdE, cellsD]; rfl)) ?_ | refine k_lenD rfl rfl ?_)
    | refine run_opsEnd ?_
    | refine run_region ?_
    | refine run_condT rfl (by first | rfl | assumption) ?_
    | refine k_guardNF rfl rfl (by first | rfl | assumption) rfl ?_
    | refine run_retOk (resOk_tmp rfl rfl ?_)
    | fail)
    all_goals exact PLe.refl _
  have g1 : decide ((2147483647 : Int) < (((be.map pdE).length : Nat) : Int)) = false := decide_eq_false (by omega)
  cases b1 with
  | false =>
    refine pcall_of_run Tryz.func5 rfl Tryz.ntmps5 rfl (fun X => ?_)
    repeat' (first
    | refine run_seq ?_
    | (refine k_pick rfl ?_; first | refine k_assignD rfl rfl ?_ | refine k_moveD rfl rfl ?_ | refine k_bin2B rfl rfl rfl rfl ?_ | refine k_pickT rfl rfl (by first | rfl | assumption) rfl ?_ | refine k_pickF rfl rfl (by first | rfl | assumption) rfl ?_ | refine k_boxW rfl rfl rfl (by first | rfl | (simp only [pdE, cellsD]; rfl)) ?_ | refine k_lenD rfl rfl ?_)
    | refine run_opsEnd ?_
    | refine run_region ?_
    | refine run_condT rfl (by first | rfl | assumption) ?_
    | (refine k_guardY rfl rfl (by first | rfl | assumption) ?_; first | refine k_loadW rfl rfl rfl (by first | rfl | (simp only [pdE, cellsD]; rfl)) ?_ | refine k_call rfl (by kernel_rfl) rfl (by first | exact c1 | (simp only [← pdE]; exact c1) | exact c2 | (simp only [← pdE]; exact c2)) ?_ | refine k_not rfl rfl ?_)
    | refine k_guardNF rfl rfl (by first | rfl | assumption) rfl ?_
    | refine run_retOk (resOk_tmp rfl rfl ?_)
    | fail)
    all_goals exact PLe.refl _
  | true =>
  cases b2 with
  | false =>
    refine pcall_of_run Tryz.func5 rfl Tryz.ntmps5 rfl (fun X => ?_)
    repeat' (first
    | refine run_seq ?_
    | (refine k_pick rfl ?_; first | refine k_assignD rfl rfl ?_ | refine k_moveD rfl rfl ?_ | refine k_bin2B rfl rfl rfl rfl ?_ | refine k_pickT rfl rfl (by first | rfl | assumption) rfl ?_ | refine k_pickF rfl rfl (by first | rfl | assumption) rfl ?_ | refine k_boxW rfl rfl rfl (by first | rfl | (simp only [pdE, cellsD]; rfl)) ?_ | refine k_lenD rfl rfl ?_)
    | refine run_opsEnd ?_
    | refine run_region ?_
    | refine run_condT rfl (by first | rfl | assumption) ?_
    | (refine k_guardY rfl rfl (by first | rfl | assumption) ?_; first | refine k_loadW rfl rfl rfl (by first | rfl | (simp only [pdE, cellsD]; rfl)) ?_ | refine k_call rfl (by kernel_rfl) rfl (by first | exact c1 | (simp only [← pdE]; exact c1) | exact c2 | (simp only [← pdE]; exact c2)) ?_ | refine k_not rfl rfl ?_)
    | refine k_guardNF rfl rfl (by first | rfl | assumption) rfl ?_
    | refine run_retOk (resOk_tmp rfl rfl ?_)
    | fail)
    all_goals exact PLe.refl _
  | true =>
  by_cases h2 : 2147483647 < a.length
  · have g2 : decide ((2147483647 : Int) < (((a.map pdE).length : Nat) : Int)) = true := decide_eq_true (by omega)
    refine pcall_of_run Tryz.func5 rfl Tryz.ntmps5 rfl (fun X => ?_)
    repeat' (first
    | refine run_seq ?_
    | (refine k_pick rfl ?_; first | refine k_assignD rfl rfl ?_ | refine k_moveD rfl rfl ?_ | refine k_bin2B rfl rfl rfl rfl ?_ | refine k_pickT rfl rfl (by first | rfl | assumption) rfl ?_ | refine k_pickF rfl rfl (by first | rfl | assumption) rfl ?_ | refine k_boxW rfl rfl rfl (by first | rfl | (simp only [pdE, cellsD]; rfl)) ?_ | refine k_lenD rfl rfl ?_)
    | refine run_opsEnd ?_
    | refine run_region ?_
    | refine run_condT rfl (by first | rfl | assumption) ?_
    | (refine k_guardY rfl rfl (by first | rfl | assumption) ?_; first | refine k_moveD rfl rfl ?_ | refine k_loadW rfl rfl rfl (by first | rfl | (simp only [pdE, cellsD]; rfl)) ?_ | refine k_bin2B rfl rfl rfl rfl ?_ | refine k_call rfl (by kernel_rfl) rfl (by first | exact c1 | (simp only [← pdE]; exact c1) | exact c2 | (simp only [← pdE]; exact c2)) ?_ | refine k_lenD rfl rfl ?_ | refine k_not rfl rfl ?_)
    | refine k_guardNF rfl rfl (by first | rfl | assumption) rfl ?_
    | refine run_retOk (resOk_tmp rfl rfl ?_)
    | fail)
    all_goals exact PLe.refl _
  have g2 : decide ((2147483647 : Int) < (((a.map pdE).length : Nat) : Int)) = false := decide_eq_false (by omega)
  by_cases h3 : 2147483647 < b.length
  · have g3 : decide ((2147483647 : Int) < (((b.map pdE).length : Nat) : Int)) = true := decide_eq_true (by omega)
    refine pcall_of_run Tryz.func5 rfl Tryz.ntmps5 rfl (fun X => ?_)
    repeat' (first
    | refine run_seq ?_
    | (refine k_pick rfl ?_; first | refine k_assignD rfl rfl ?_ | refine k_moveD rfl rfl ?_ | refine k_bin2B rfl rfl rfl rfl ?_ | refine k_pickF rfl rfl (by first | rfl | assumption) rfl ?_ | refine k_boxW rfl rfl rfl (by first | rfl | (simp only [pdE, cellsD]; rfl)) ?_ | refine k_lenD rfl rfl ?_)
    | refine run_opsEnd ?_
    | refine run_region ?_
    | refine run_condT rfl (by first | rfl | assumption) ?_
    | (refine k_guardY rfl rfl (by first | rfl | assumption) ?_; first | refine k_moveD rfl rfl ?_ | refine k_loadW rfl rfl rfl (by first | rfl | (simp only [pdE, cellsD]; rfl)) ?_ | refine k_bin2B rfl rfl rfl rfl ?_ | refine k_call rfl (by kernel_rfl) rfl (by first | exact c1 | (simp only [← pdE]; exact c1) | exact c2 | (simp only [← pdE]; exact c2)) ?_ | refine k_lenD rfl rfl ?_ | refine k_not rfl rfl ?_)
    | refine run_retOk (resOk_tmp rfl rfl ?_)
    | fail)
    all_goals exact PLe.refl _
  have g3 : decide ((2147483647 : Int) < (((b.map pdE).length : Nat) : Int)) = false := decide_eq_false (by omega)
  cases o1 : be.all ordE with
  | false =>
    rw [o1] at c3
    refine pcall_of_run Tryz.func5 rfl Tryz.ntmps5 rfl (fun X => ?_)
    repeat' (first
    | refine run_seq ?_
    | (refine k_pick rfl ?_; first | refine k_assignD rfl rfl ?_ | refine k_moveD rfl rfl ?_ | refine k_bin2B rfl rfl rfl rfl ?_ | refine k_pickT rfl rfl (by first | rfl | assumption) rfl ?_ | refine k_pickF rfl rfl (by first | rfl | assumption) rfl ?_ | refine k_boxW rfl rfl rfl (by first | rfl | (simp only [pdE, cellsD]; rfl)) ?_ | refine k_call rfl (by kernel_rfl) rfl (by first | exact c1 | (simp only [← pdE]; exact c1) | exact c2 | (simp only [← pdE]; exact c2) | exact c3 | (simp only [← pdE]; exact c3)) ?_ | refine k_lenD rfl rfl ?_ | refine k_not rfl rfl ?_)
    | refine run_opsEnd ?_
    | refine run_region ?_
    | refine run_condT rfl (by first | rfl | assumption) ?_
    | refine run_condF rfl (by first | rfl | assumption) ?_
    | (refine k_guardY rfl rfl (by first | rfl | assumption) ?_; first | refine k_moveD rfl rfl ?_ | refine k_loadW rfl rfl rfl (by first | rfl | (simp only [pdE, cellsD]; rfl)) ?_ | refine k_bin2B rfl rfl rfl rfl ?_ | refine k_call rfl (by kernel_rfl) rfl (by first | exact c1 | (simp only [← pdE]; exact c1) | exact c2 | (simp only [← pdE]; exact c2) | exact c3 | (simp only [← pdE]; exact c3)) ?_ | refine k_lenD rfl rfl ?_ | refine k_not rfl rfl ?_)
    | refine k_guardNF rfl rfl (by first | rfl | assumption) rfl ?_
    | refine run_skip ?_
    | refine run_retOk (resOk_tmp rfl rfl ?_)
    | fail)
    all_goals exact PLe.refl _
  | true =>
  cases o2 : ordE x with
  | false =>
    rw [o1] at c3
    rw [o2] at c4
    refine pcall_of_run Tryz.func5 rfl Tryz.ntmps5 rfl (fun X => ?_)
    repeat' (first
    | refine run_seq ?_
    | (refine k_pick rfl ?_; first | refine k_assignD rfl rfl ?_ | refine k_moveD rfl rfl ?_ | refine k_bin2B rfl rfl rfl rfl ?_ | refine k_pickT rfl rfl (by first | rfl | assumption) rfl ?_ | refine k_pickF rfl rfl (by first | rfl | assumption) rfl ?_ | refine k_boxW rfl rfl rfl (by first | rfl | (simp only [pdE, cellsD]; rfl)) ?_ | refine k_call rfl (by kernel_rfl) rfl (by first | exact c1 | (simp only [← pdE]; exact c1) | exact c2 | (simp only [← pdE]; exact c2) | exact c3 | (simp only [← pdE]; exact c3) | exact c4 | (simp only [← pdE]; exact c4)) ?_ | refine k_lenD rfl rfl ?_ | refine k_not rfl rfl ?_)
    | refine run_opsEnd ?_
    | refine run_region ?_
    | refine run_condT rfl (by first | rfl | assumption) ?_
    | refine run_condF rfl (by first | rfl | assumption) ?_
    | (refine k_guardY rfl rfl (by first | rfl | assumption) ?_; first | refine k_moveD rfl rfl ?_ | refine k_loadW rfl rfl rfl (by first | rfl | (simp only [pdE, cellsD]; rfl)) ?_ | refine k_bin2B rfl rfl rfl rfl ?_ | refine k_call rfl (by kernel_rfl) rfl (by first | exact c1 | (simp only [← pdE]; exact c1) | exact c2 | (simp only [← pdE]; exact c2) | exact c3 | (simp only [← pdE]; exact c3) | exact c4 | (simp only [← pdE]; exact c4)) ?_ | refine k_lenD rfl rfl ?_ | refine k_not rfl rfl ?_)
    | refine k_guardNF rfl rfl (by first | rfl | assumption) rfl ?_
    | refine run_skip ?_
    | refine run_retOk (resOk_tmp rfl rfl ?_)
    | fail)
    all_goals exact PLe.refl _
  | true =>
  cases o3 : ordE y with
  | false =>
    rw [o1] at c3
    rw [o2] at c4
    rw [o3] at c5
    refine pcall_of_run Tryz.func5 rfl Tryz.ntmps5 rfl (fun X => ?_)
    repeat' (first
    | refine run_seq ?_
    | (refine k_pick rfl ?_; first | refine k_assignD rfl rfl ?_ | refine k_moveD rfl rfl ?_ | refine k_bin2B rfl rfl rfl rfl ?_ | refine k_pickT rfl rfl (by first | rfl | assumption) rfl ?_ | refine k_pickF rfl rfl (by first | rfl | assumption) rfl ?_ | refine k_boxW rfl rfl rfl (by first | rfl | (simp only [pdE, cellsD]; rfl)) ?_ | refine k_call rfl (by kernel_rfl) rfl (by first | exact c1 | (simp only [← pdE]; exact c1) | exact c2 | (simp only [← pdE]; exact c2) | exact c3 | (simp only [← pdE]; exact c3) | exact c4 | (simp only [← pdE]; exact c4) | exact c5 | (simp only [← pdE]; exact c5)) ?_ | refine k_lenD rfl rfl ?_ | refine k_not rfl rfl ?_)
    | refine run_opsEnd ?_
    | refine run_region ?_
    | refine run_condT rfl (by first | rfl | assumption) ?_
    | refine run_condF rfl (by first | rfl | assumption) ?_
    | (refine k_guardY rfl rfl (by first | rfl | assumption) ?_; first | refine k_moveD rfl rfl ?_ | refine k_loadW rfl rfl rfl (by first | rfl | (simp only [pdE, cellsD]; rfl)) ?_ | refine k_bin2B rfl rfl rfl rfl ?_ | refine k_call rfl (by kernel_rfl) rfl (by first | exact c1 | (simp only [← pdE]; exact c1) | exact c2 | (simp only [← pdE]; exact c2) | exact c3 | (simp only [← pdE]; exact c3) | exact c4 | (simp only [← pdE]; exact c4) | exact c5 | (simp only [← pdE]; exact c5)) ?_ | refine k_lenD rfl rfl ?_ | refine k_not rfl rfl ?_)
    | refine k_guardNF rfl rfl (by first | rfl | assumption) rfl ?_
    | refine run_skip ?_
    | refine run_retOk (resOk_tmp rfl rfl ?_)
    | fail)
    all_goals exact PLe.refl _
  | true =>
  cases o4 : eqE x y with
  | true =>
    rw [o1] at c3
    rw [o2] at c4
    rw [o3] at c5
    rw [o4] at c6
    refine pcall_of_run Tryz.func5 rfl Tryz.ntmps5 rfl (fun X => ?_)
    repeat' (first
    | refine run_seq ?_
    | (refine k_pick rfl ?_; first | refine k_assignD rfl rfl ?_ | refine k_moveD rfl rfl ?_ | refine k_bin2B rfl rfl rfl rfl ?_ | refine k_pickF rfl rfl (by first | rfl | assumption) rfl ?_ | refine k_boxW rfl rfl rfl (by first | rfl | (simp only [pdE, cellsD]; rfl)) ?_ | refine k_call rfl (by kernel_rfl) rfl (by first | exact c1 | (simp only [← pdE]; exact c1) | exact c2 | (simp only [← pdE]; exact c2) | exact c3 | (simp only [← pdE]; exact c3) | exact c4 | (simp only [← pdE]; exact c4) | exact c5 | (simp only [← pdE]; exact c5) | exact c6 | (simp only [← pdE]; exact c6)) ?_ | refine k_lenD rfl rfl ?_ | refine k_not rfl rfl ?_)
    | refine run_opsEnd ?_
    | refine run_region ?_
    | refine run_condT rfl (by first | rfl | assumption) ?_
    | refine run_condF rfl (by first | rfl | assumption) ?_
    | (refine k_guardY rfl rfl (by first | rfl | assumption) ?_; first | refine k_moveD rfl rfl ?_ | refine k_loadW rfl rfl rfl (by first | rfl | (simp only [pdE, cellsD]; rfl)) ?_ | refine k_bin2B rfl rfl rfl rfl ?_ | refine k_call rfl (by kernel_rfl) rfl (by first | exact c1 | (simp only [← pdE]; exact c1) | exact c2 | (simp only [← pdE]; exact c2) | exact c3 | (simp only [← pdE]; exact c3) | exact c4 | (simp only [← pdE]; exact c4) | exact c5 | (simp only [← pdE]; exact c5) | exact c6 | (simp only [← pdE]; exact c6)) ?_ | refine k_lenD rfl rfl ?_ | refine k_not rfl rfl ?_)
    | refine run_skip ?_
    | refine run_retOk (resOk_tmp rfl rfl ?_)
    | fail)
    all_goals exact PLe.refl _
  | false =>
  have jx := JPE_fits f2
  have jy := JPE_fits f3
  have ox := OPE_ord jx o2
  have oy := OPE_ord jy o3
  have ob : ∀ z ∈ be.map toPE, cmpPE z z = 0 := fun z hz => by
    obtain ⟨u, hu, rfl⟩ := List.mem_map.1 hz
    exact self_PE (JPE_fits (f1.sl.2.2 (pdE u) (List.mem_map.2 ⟨u, hu, rfl⟩)))
  have hne : cmpPE (toPE x) (toPE y) ≠ 0 := fun h => by
    have := (eqPE_iff ox oy).2 h
    rw [eqE_law jx jy, o4] at this
    cases this
  have hno : eqPE (toPE x) (toPE y) = false := by rw [eqE_law jx jy]; exact o4
  have k1 := under_c be x (by omega)
  have k2 := under_c be y (by omega)
  have k3 := implCmpPaths_p (be ++ x :: a) (be ++ y :: b)
  have k4 := implEqPaths_p (be ++ x :: a) (be ++ y :: b)
  have k5 := cmpElems_p x y
  rw [List.map_append, List.map_append, List.map_cons, List.map_cons, cmpLx_begin _ _ _ _ _ ob hne, cmpE_law jx jy] at k3
  have hi : ∀ (u : PEV) (t : List PEV), (be.map toPE ++ u :: t)[(be.map toPE).length]? = some u := fun u t => by rw [List.getElem?_append_right (Nat.le_refl _)]; simp
  rw [List.map_append, List.map_append, List.map_cons, List.map_cons, eqLx_no (hi _ _) (hi _ _) hno] at k4
  have v1 : pdP (be ++ x :: a) = .sl 11 168 (be.map pdE ++ [pdE x] ++ a.map pdE) := by unfold pdP; simp
  have v2 : pdP (be ++ y :: b) = .sl 11 168 (be.map pdE ++ [pdE y] ++ b.map pdE) := by unfold pdP; simp
  rw [v1, v2] at k3 k4
  rw [o1] at c3
  rw [o2] at c4
  rw [o3] at c5
  rw [o4] at c6
  clear o1 o2 o3 o4 hi hne hno ox oy jx jy v1 v2 ob f1 f2 f3 f4 f5
  unfold pdP at k1 k2
  generalize cmpE x y = c at *
  have hc : decide (c = c) = true := decide_eq_true rfl
  have q1 : ((be.map pdE ++ [pdE x]).length + (a.map pdE).length) * 168 ≤ 140737488351232 := by simp only [List.length_append, List.length_cons, List.length_nil, n1, n2]; omega
  have q2 : ((be.map pdE ++ [pdE y]).length + (b.map pdE).length) * 168 ≤ 140737488351232 := by simp only [List.length_append, List.length_cons, List.length_nil, n1, n3]; omega
  have q3 : (be.map pdE ++ [pdE x]).length + (a.map pdE).length ≤ 140737488351232 := by omega
  have q4 : (be.map pdE ++ [pdE y]).length + (b.map pdE).length ≤ 140737488351232 := by omega
  refine pcall_of_run Tryz.func5 rfl Tryz.ntmps5 rfl (fun X => ?_)
  repeat' (first
    | (refine c_pick (d_acallO (fun _ => 156) rfl (by kernel_rfl) k1 rfl rfl rfl rfl rfl rfl) ?_)
    | (refine c_pick (d_acallO (fun _ => 161) rfl (by kernel_rfl) k2 rfl rfl rfl rfl rfl rfl) ?_)
    | refine run_seq ?_
    | (refine k_pick rfl ?_; first | refine k_assignD rfl rfl ?_ | refine k_moveD rfl rfl ?_ | refine k_bin2B rfl rfl rfl rfl ?_ | refine k_pickF rfl rfl (by first | rfl | assumption) rfl ?_ | refine k_boxW rfl rfl rfl (by first | rfl | (simp only [pdE, cellsD]; rfl)) ?_ | refine k_call rfl (by kernel_rfl) rfl (by first | exact c1 | (simp only [← pdE]; exact c1) | exact c2 | (simp only [← pdE]; exact c2) | exact c3 | (simp only [← pdE]; exact c3) | exact c4 | (simp only [← pdE]; exact c4) | exact c5 | (simp only [← pdE]; exact c5) | exact c6 | (simp only [← pdE]; exact c6) | exact k3 | (simp only [← pdE]; exact k3) | exact k4 | (simp only [← pdE]; exact k4) | exact k5 | (simp only [← pdE]; exact k5)) ?_ | refine k_lenD rfl rfl ?_ | refine k_not rfl rfl ?_)
    | refine run_opsEnd ?_
    | refine run_region ?_
    | refine run_condF rfl (by first | rfl | assumption) ?_
    | (refine k_guardY rfl rfl (by first | rfl | assumption) ?_; first | refine k_moveD rfl rfl ?_ | refine k_loadW rfl rfl rfl (by first | rfl | (simp only [pdE, cellsD]; rfl)) ?_ | refine k_bin2B rfl rfl rfl rfl ?_ | refine k_call rfl (by kernel_rfl) rfl (by first | exact c1 | (simp only [← pdE]; exact c1) | exact c2 | (simp only [← pdE]; exact c2) | exact c3 | (simp only [← pdE]; exact c3) | exact c4 | (simp only [← pdE]; exact c4) | exact c5 | (simp only [← pdE]; exact c5) | exact c6 | (simp only [← pdE]; exact c6) | exact k3 | (simp only [← pdE]; exact k3) | exact k4 | (simp only [← pdE]; exact k4) | exact k5 | (simp only [← pdE]; exact k5)) ?_ | refine k_lenD rfl rfl ?_ | refine k_not rfl rfl ?_)
    | refine run_skip ?_
    | refine run_retOk (resOk_tmp rfl rfl ?_)
    | refine run_drawC (by kernel_rfl) ?_
    | refine c_nil (And.intro (by kernel_rfl) ?_)
    | refine c_pick (d_appendOD rfl rfl rfl rfl rfl (by kernel_rfl) rfl rfl (by assumption) (by assumption)) ?_
    | refine c_pick (d_assignD rfl rfl) ?_
    | refine c_pick (d_moveD rfl rfl) ?_
    | refine c_pick (d_loadW rfl rfl rfl (by first | rfl | (simp only [pdE, cellsD]; rfl))) ?_
    | refine c_pick (d_bin2B rfl rfl rfl rfl) ?_
    | refine c_pick (d_pickT rfl rfl (by first | rfl | assumption) rfl) ?_
    | refine c_pick (d_call rfl (by kernel_rfl) rfl (by first | exact c1 | (simp only [← pdE]; exact c1) | exact c2 | (simp only [← pdE]; exact c2) | exact c3 | (simp only [← pdE]; exact c3) | exact c4 | (simp only [← pdE]; exact c4) | exact c5 | (simp only [← pdE]; exact c5) | exact c6 | (simp only [← pdE]; exact c6) | exact k3 | (simp only [← pdE]; exact k3) | exact k4 | (simp only [← pdE]; exact k4) | exact k5 | (simp only [← pdE]; exact k5))) ?_
    | refine c_pick (d_assignO rfl rfl) ?_
    | refine c_pick (d_moveO rfl rfl) ?_
    | refine c_pick (d_callZ gV rfl (by kernel_rfl) rfl (by first | exact c1 | (simp only [← pdE]; exact c1) | exact c2 | (simp only [← pdE]; exact c2) | exact c3 | (simp only [← pdE]; exact c3) | exact c4 | (simp only [← pdE]; exact c4) | exact c5 | (simp only [← pdE]; exact c5) | exact c6 | (simp only [← pdE]; exact c6) | exact k3 | (simp only [← pdE]; exact k3) | exact k4 | (simp only [← pdE]; exact k4) | exact k5 | (simp only [← pdE]; exact k5)) Flat.val) ?_
    | refine c_pickY rfl (by first | rfl | assumption) (d_not rfl rfl) ?_
    | refine c_pickY rfl (by first | rfl | assumption) (d_moveO rfl rfl) ?_
    | refine c_pickY rfl (by first | rfl | assumption) (d_callZ gV rfl (by kernel_rfl) rfl (by first | exact c1 | (simp only [← pdE]; exact c1) | exact c2 | (simp only [← pdE]; exact c2) | exact c3 | (simp only [← pdE]; exact c3) | exact c4 | (simp only [← pdE]; exact c4) | exact c5 | (simp only [← pdE]; exact c5) | exact c6 | (simp only [← pdE]; exact c6) | exact k3 | (simp only [← pdE]; exact k3) | exact k4 | (simp only [← pdE]; exact k4) | exact k5 | (simp only [← pdE]; exact k5)) Flat.val) ?_
    | fail)
  all_goals first | exact PLe.refl _ | trace_state
end Go.Proofs.YtbbacpdbbmjblaaGreat
end
section
namespace Go.Proofs.YtbbacpdbbmjblaaGreat
open Go.ChangeShapes Go.WideShapes Go.ChangeAt Go.RowKit
theorem trodFloat {H : Type} {enc : TypeId × Value → H} {P : Program} {w : World} {base : Nat} {spare : Nat → Bool} {held : Bool} {fuel : Nat} {t : TypeId} {cs : List Value} {x : DataW H × List MemPlace} {k : FloatKind}
    (ht : P.underlying t = some (.float k)) (h : DataW.trod enc P w base spare held fuel t cs = some x) : ∃ n, cs = [.float k n] ∧ (Lit.float k n).wf = true := by
  cases fuel with
  | zero => simp [DataW.trod] at h
  | succ n =>
    unfold DataW.trod at h
    rw [ht] at h
    split at h <;> simp_all
theorem weights_mem_all {H : Type} {P : Program} {e : TypeId} : ∀ {ds : List (DataW H)} {d : DataW H}, d ∈ ds → ∀ n ∈ d.weights P e, n ∈ DataW.weightsAll P e ds
  | d0 :: ds, d, hd, n, hn => by
    simp only [DataW.weightsAll, List.mem_append]
    rcases List.mem_cons.1 hd with rfl | hd
    · exact .inl hn
    · exact .inr (weights_mem_all hd n hn)
theorem Tryz.cellsVal : Tryz.prog.cellsOf 27 = 6 := by kernel_rfl
theorem Tryz.cellsStr : Tryz.prog.cellsOf 9 = 1 := by kernel_rfl
theorem Tryz.cellsInt : Tryz.prog.cellsOf 3 = 1 := by kernel_rfl
theorem Tryz.cellsInt64 : Tryz.prog.cellsOf 2 = 1 := by kernel_rfl
theorem Tryz.cellsFlt : Tryz.prog.cellsOf 25 = 1 := by kernel_rfl
theorem Tryz.cellsStrs : Tryz.prog.cellsOf 23 = 1 := by kernel_rfl
theorem Tryz.cellsVals : Tryz.prog.cellsOf 24 = 1 := by kernel_rfl
theorem Tryz.bytesVal : Tryz.prog.bytesOf 27 = 88 := by kernel_rfl
theorem Tryz.bytesStr : Tryz.prog.bytesOf 9 = 16 := by kernel_rfl
theorem cells_six {w : World} {base : Nat} {a : Addr} {cs : List Value} (h : w.cells? base a 6 = some cs) :
    ∃ c0 c1 c2 c3 c4 c5, cs = [c0, c1, c2, c3, c4, c5] ∧ w.cell? a = some c0 ∧ w.cell? (a.add 1) = some c1 ∧ w.cell? (a.add 2) = some c2 ∧ w.cell? (a.add 3) = some c3 ∧ w.cell? (a.add 4) = some c4 ∧ w.cell? (a.add 5) = some c5 := by
  unfold World.cells? at h
  split at h
  · simp only [List.range, List.range.loop, List.mapM_cons, List.mapM_nil] at h
    simp only [Option.bind_eq_bind, Option.bind_eq_some_iff, Option.pure_def, Option.some.injEq] at h
    obtain ⟨c0, h0, l1, ⟨c1, h1, l2, ⟨c2, h2, l3, ⟨c3, h3, l4, ⟨c4, h4, l5, ⟨c5, h5, l6, e6, e5⟩, e4⟩, e3⟩, e2⟩, e1⟩, e0⟩ := h
    subst e6 e5 e4 e3 e2 e1 e0
    exact ⟨c0, c1, c2, c3, c4, c5, rfl, by simpa [Addr.add] using h0, h1, h2, h3, h4, h5⟩
  · simp at h
theorem isVs_of {w : World} {S : Nat → Prop} {b : Nat} : ∀ (n o : Nat), (∀ i, i < n → ∃ x c0 c1 c2 c3 c4 c5, w.cell? ⟨b, o + i * 6, none⟩ = some c0 ∧ w.cell? ⟨b, o + i * 6 + 1, none⟩ = some c1 ∧ w.cell? ⟨b, o + i * 6 + 2, none⟩ = some c2 ∧
      w.cell? ⟨b, o + i * 6 + 3, none⟩ = some c3 ∧ w.cell? ⟨b, o + i * 6 + 4, none⟩ = some c4 ∧ w.cell? ⟨b, o + i * 6 + 5, none⟩ = some c5 ∧ IsV w S x (.agg #[c0, c1, c2, c3, c4, c5])) → ∃ l : List GV, l.length = n ∧ IsVs w S l b o
  | 0, _, _ => ⟨[], rfl, by simp [IsVs]⟩
  | n + 1, o, h => by
    obtain ⟨x, c0, c1, c2, c3, c4, c5, h0⟩ := h 0 (Nat.succ_pos _)
    obtain ⟨l, hl, hv⟩ := isVs_of (w := w) (S := S) (b := b) n (o + 6) (fun i hi => by
      have := h (i + 1) (by omega)
      rwa [show o + (i + 1) * 6 = o + 6 + i * 6 by omega] at this)
    refine ⟨x :: l, by simp [hl], ?_⟩
    unfold IsVs
    exact ⟨⟨c0, c1, c2, c3, c4, c5, by simpa using h0⟩, hv⟩
theorem isStrs_of_trod {H : Type} {enc : TypeId × Value → H} {w : World} {fuel : Nat} {cs : List Value} {d : DataW H} {ps : List MemPlace}
    (h : DataW.trod enc Tryz.prog w 0 (fun _ => true) true fuel 23 cs = some (d, ps)) (hw : ∀ n ∈ d.weights Tryz.prog 23, n ≤ reachBytes) :
    ∃ v ks, cs = [v] ∧ IsStrs w (Btw 0 w.heap.size) v ks := by
  rcases open_strings Tryz.underlying23 Tryz.underlying9 Tryz.cellsStr h with ⟨rfl, hx⟩ | ⟨a, len, cap, ss, rfl, _, hl, hm, hz, hx, hcell, hws⟩
  · exact ⟨_, [], rfl, none, 0, rfl, Nat.le_refl _, by decide, by simp, fun h => by simp at h⟩
  · simp only [if_true] at hz
    simp only [Prod.mk.injEq] at hx
    obtain ⟨rfl, rfl⟩ := hx
    have hlen : (ss.take len).length = len := by simp; omega
    have hsz := hw (((strs (H := H) (ss.take len)).length + (strs (H := H) (ss.drop len)).length) * Tryz.prog.bytesOf 9) (by simp [DataW.weights, Tryz.underlying23])
    rw [Tryz.bytesStr] at hsz
    simp only [strs, List.length_map, List.length_take, List.length_drop, reachBytes] at hsz
    refine ⟨_, ss.take len, rfl, some a, cap, by rw [hlen], by rw [hlen]; exact hl, by rw [hlen]; omega, fun s hs => hws s (List.mem_of_mem_take hs), fun hp => ?_⟩
    rw [hlen] at hp
    have h0 := hcell 0 (by omega)
    have hspot : a.spot = none := by simpa [Addr.add] using World.cell?_spot h0
    obtain ⟨b, o, sp⟩ := a
    subst hspot
    refine ⟨b, o, ⟨Nat.zero_le _, by have := World.block_lt_of_cell? w _ h0; simpa [Addr.add] using this⟩, rfl, fun i hi => ?_⟩
    rw [hlen] at hi
    have := hcell i (by omega)
    rw [add_plain] at this
    rw [this]
    simp [List.getD, hi]
set_option maxRecDepth 100000 in
set_option maxHeartbeats 1000000 in
theorem isV_of_trod {H : Type} {enc : TypeId × Value → H} {w : World} (fuel : Nat) {cs : List Value} {d : DataW H} {ps : List MemPlace}
    (h : DataW.trod enc Tryz.prog w 0 (fun _ => true) true fuel 27 cs = some (d, ps)) (hw : ∀ n ∈ d.weights Tryz.prog 27, n ≤ reachBytes) :
    ∃ x c0 c1 c2 c3 c4 c5, cs = [c0, c1, c2, c3, c4, c5] ∧ IsV w (Btw 0 w.heap.size) x (.agg #[c0, c1, c2, c3, c4, c5]) := by
  obtain ⟨xs, n, rfl, hx, hl, hlen, hf⟩ := DataW.trod_struct Tryz.underlying27 h
  rw [Tryz.cellsVal] at hl
  match cs, hl with
  | [c0, c1, c2, c3, c4, c5], _ =>
  match xs, hlen with
  | [y0, y1, y2, y3, y4, y5], _ =>
  have h0 : DataW.trod enc Tryz.prog w 0 (fun _ => true) true n 3 (([c0, c1, c2, c3, c4, c5].drop 0).take (Tryz.prog.cellsOf 3)) = some y0 := (by have g := hf 0 _ rfl; exact g)
  have h1 : DataW.trod enc Tryz.prog w 0 (fun _ => true) true n 2 (([c0, c1, c2, c3, c4, c5].drop 1).take (Tryz.prog.cellsOf 2)) = some y1 := (by have g := hf 1 _ rfl; exact g)
  have h2 : DataW.trod enc Tryz.prog w 0 (fun _ => true) true n 25 (([c0, c1, c2, c3, c4, c5].drop 2).take (Tryz.prog.cellsOf 25)) = some y2 := (by have g := hf 2 _ rfl; exact g)
  have h3 : DataW.trod enc Tryz.prog w 0 (fun _ => true) true n 9 (([c0, c1, c2, c3, c4, c5].drop 3).take (Tryz.prog.cellsOf 9)) = some y3 := (by have g := hf 3 _ rfl; exact g)
  have h4 : DataW.trod enc Tryz.prog w 0 (fun _ => true) true n 23 (([c0, c1, c2, c3, c4, c5].drop 4).take (Tryz.prog.cellsOf 23)) = some y4 := (by have g := hf 4 _ rfl; exact g)
  have h5 : DataW.trod enc Tryz.prog w 0 (fun _ => true) true n 24 (([c0, c1, c2, c3, c4, c5].drop 5).take (Tryz.prog.cellsOf 24)) = some y5 := (by have g := hf 5 _ rfl; exact g)
  clear hf h
  simp only [Tryz.cellsInt, Tryz.cellsInt64, Tryz.cellsFlt, Tryz.cellsStr, Tryz.cellsStrs, Tryz.cellsVals, List.drop_zero, List.drop_succ_cons, List.take_succ_cons, List.take_zero] at h0 h1 h2 h3 h4 h5
  simp only [Prod.mk.injEq] at hx
  obtain ⟨rfl, rfl⟩ := hx
  obtain ⟨k, e0, -, w0⟩ := DataW.trod_int Tryz.underlying3 h0
  obtain ⟨m, e1, -, w1⟩ := DataW.trod_int Tryz.underlying2 h1
  obtain ⟨f, e2, w2⟩ := trodFloat Tryz.underlying25 h2
  obtain ⟨s, e3, -, w3⟩ := DataW.trod_string Tryz.underlying9 h3
  simp only [DataW.weights, Tryz.underlying27, List.map_cons, List.map_nil, DataW.weightsEach, List.mem_append, List.append_nil] at hw
  obtain ⟨v4, ks, e4, hks⟩ := isStrs_of_trod (d := y4.1) (ps := y4.2) h4 (fun n hn => hw n (by simp [hn]))
  simp only [List.cons.injEq, and_true] at e0 e1 e2 e3 e4
  subst e0 e1 e2 e3 e4
  have hw5 : ∀ n ∈ y5.1.weights Tryz.prog 24, n ≤ reachBytes := fun n hn => hw n (by simp [hn])
  clear h0 h1 h2 h3 h4 hw
  rcases DataW.trod_slice Tryz.underlying24 h5 with ⟨e5, -⟩ | ⟨a, len, cap, elems, rest, n', hn', e5, hx5, _, hlc, hm, hlen5, hel, _, _⟩
  · simp only [List.cons.injEq, and_true] at e5
    subst e5
    refine ⟨.mk k m f s ks [], _, _, _, _, _, _, rfl, ?_⟩
    unfold IsV
    exact ⟨_, none, 0, rfl, w0, w1, w2, w3, hks, Nat.le_refl _, by decide, .inl rfl⟩
  · simp only [List.cons.injEq, and_true] at e5
    subst e5
    rw [hx5] at hw5
    simp only [DataW.weights, Tryz.underlying24, Tryz.bytesVal, List.length_map] at hw5
    have hsz := hw5 ((elems.length + rest.length) * 88) (by simp)
    simp only [reachBytes] at hsz
    rw [Tryz.cellsVal] at hel
    have key : ∀ i, i < len → ∃ x c0 c1 c2 c3 c4 c5, w.cell? (a.add (i * 6)) = some c0 ∧ w.cell? ((a.add (i * 6)).add 1) = some c1 ∧ w.cell? ((a.add (i * 6)).add 2) = some c2 ∧
        w.cell? ((a.add (i * 6)).add 3) = some c3 ∧ w.cell? ((a.add (i * 6)).add 4) = some c4 ∧ w.cell? ((a.add (i * 6)).add 5) = some c5 ∧ IsV w (Btw 0 w.heap.size) x (.agg #[c0, c1, c2, c3, c4, c5]) := by
      intro i hi
      have hb := hel i hi
      obtain ⟨y, hy⟩ : ∃ y, elems[i]? = some y := ⟨elems[i], by simp [hlen5, hi]⟩
      rw [hy, Option.bind_eq_some_iff] at hb
      obtain ⟨cs', hcs, hb⟩ := hb
      obtain ⟨x, c0, c1, c2, c3, c4, c5, rfl, hv⟩ := isV_of_trod n' (d := y.1) (ps := y.2) hb (fun q hq => hw5 q (by
        simp only [List.mem_cons, List.mem_append]
        exact .inr (.inl (weights_mem_all (List.mem_map_of_mem (List.mem_of_getElem? hy)) q hq))))
      obtain ⟨d0, d1, d2, d3, d4, d5, e, g⟩ := cells_six hcs
      simp only [List.cons.injEq, and_true] at e
      obtain ⟨rfl, rfl, rfl, rfl, rfl, rfl⟩ := e
      exact ⟨x, _, _, _, _, _, _, g.1, g.2.1, g.2.2.1, g.2.2.2.1, g.2.2.2.2.1, g.2.2.2.2.2, hv⟩
    by_cases hl0 : len = 0
    · subst hl0
      refine ⟨.mk k m f s ks [], _, _, _, _, _, _, rfl, ?_⟩
      unfold IsV
      exact ⟨_, some a, cap, rfl, w0, w1, w2, w3, hks, Nat.zero_le _, by decide, .inl rfl⟩
    · obtain ⟨_, _, _, _, _, _, _, g0, _⟩ := key 0 (by omega)
      have hspot : a.spot = none := by simpa [Addr.add] using World.cell?_spot g0
      have hlt := World.block_lt_of_cell? w _ g0
      obtain ⟨b, o, sp⟩ := a
      subst hspot
      simp only [add_plain] at key
      obtain ⟨l, hll, hvs⟩ := isVs_of (b := b) len o key
      refine ⟨.mk k m f s ks l, _, _, _, _, _, _, rfl, ?_⟩
      unfold IsV
      exact ⟨_, _, cap, by rw [hll], w0, w1, w2, w3, hks, by omega, by omega, .inr ⟨b, o, ⟨Nat.zero_le _, by simpa [Addr.add] using hlt⟩, rfl, hvs⟩⟩
termination_by fuel
decreasing_by omega
end Go.Proofs.YtbbacpdbbmjblaaGreat
end
section
namespace Go.Proofs.YtbbacpdbbmjblaaGreat
open Go.ChangeShapes Go.WideShapes Go.ChangeAt Go.RowKit
theorem Tryz.cellsElem : Tryz.prog.cellsOf 29 = 11 := by kernel_rfl
set_option maxHeartbeats 1000000 in
theorem isL_of_trod {H : Type} {enc : TypeId × Value → H} {w : World} (fuel : Nat) {cs : List Value} {d : DataW H} {ps : List MemPlace}
    (h5 : DataW.trod enc Tryz.prog w 0 (fun _ => true) true fuel 24 cs = some (d, ps)) (hw5 : ∀ n ∈ d.weights Tryz.prog 24, n ≤ reachBytes) :
    ∃ a c, ∃ l : List GV, cs = [.slice a l.length c] ∧ l.length ≤ c ∧ l.length * 88 ≤ 140737488351232 ∧ (l = [] ∨ ∃ b o, Btw 0 w.heap.size b ∧ a = some ⟨b, o, none⟩ ∧ IsVs w (Btw 0 w.heap.size) l b o) := by
  rcases DataW.trod_slice Tryz.underlying24 h5 with ⟨e5, -⟩ | ⟨a, len, cap, elems, rest, n', hn', e5, hx5, _, hlc, hm, hlen5, hel, _, _⟩
  · exact ⟨none, 0, [], e5, Nat.le_refl _, by decide, .inl rfl⟩
  · obtain ⟨rfl, _⟩ : d = _ ∧ ps = _ := by simpa only [Prod.mk.injEq] using hx5
    simp only [DataW.weights, Tryz.underlying24, Tryz.bytesVal, List.length_map] at hw5
    have hsz := hw5 ((elems.length + rest.length) * 88) (by simp)
    simp only [reachBytes] at hsz
    rw [Tryz.cellsVal] at hel
    have key : ∀ i, i < len → ∃ x c0 c1 c2 c3 c4 c5, w.cell? (a.add (i * 6)) = some c0 ∧ w.cell? ((a.add (i * 6)).add 1) = some c1 ∧ w.cell? ((a.add (i * 6)).add 2) = some c2 ∧
        w.cell? ((a.add (i * 6)).add 3) = some c3 ∧ w.cell? ((a.add (i * 6)).add 4) = some c4 ∧ w.cell? ((a.add (i * 6)).add 5) = some c5 ∧ IsV w (Btw 0 w.heap.size) x (.agg #[c0, c1, c2, c3, c4, c5]) := by
      intro i hi
      have hb := hel i hi
      obtain ⟨y, hy⟩ : ∃ y, elems[i]? = some y := ⟨elems[i], by simp [hlen5, hi]⟩
      rw [hy, Option.bind_eq_some_iff] at hb
      obtain ⟨cs', hcs, hb⟩ := hb
      obtain ⟨x, c0, c1, c2, c3, c4, c5, rfl, hv⟩ := isV_of_trod n' (d := y.1) (ps := y.2) hb (fun q hq => hw5 q (by
        simp only [List.mem_cons, List.mem_append]
        exact .inr (.inl (weights_mem_all (List.mem_map_of_mem (List.mem_of_getElem? hy)) q hq))))
      obtain ⟨d0, d1, d2, d3, d4, d5, e, g⟩ := cells_six hcs
      simp only [List.cons.injEq, and_true] at e
      obtain ⟨rfl, rfl, rfl, rfl, rfl, rfl⟩ := e
      exact ⟨x, _, _, _, _, _, _, g.1, g.2.1, g.2.2.1, g.2.2.2.1, g.2.2.2.2.1, g.2.2.2.2.2, hv⟩
    by_cases hl0 : len = 0
    · subst hl0
      exact ⟨some a, cap, [], e5, Nat.zero_le _, by decide, .inl rfl⟩
    · obtain ⟨_, _, _, _, _, _, _, g0, _⟩ := key 0 (by omega)
      have hspot : a.spot = none := by simpa [Addr.add] using World.cell?_spot g0
      have hlt := World.block_lt_of_cell? w _ g0
      obtain ⟨b, o, sp⟩ := a
      subst hspot
      simp only [add_plain] at key
      obtain ⟨l, hll, hvs⟩ := isVs_of (b := b) len o key
      exact ⟨_, cap, l, by rw [hll]; exact e5, by omega, by omega, .inr ⟨b, o, ⟨Nat.zero_le _, by simpa [Addr.add] using hlt⟩, rfl, hvs⟩⟩
set_option maxRecDepth 100000 in
set_option maxHeartbeats 1000000 in
theorem isE_of_trod {H : Type} {enc : TypeId × Value → H} {w : World} (fuel : Nat) {cs : List Value} {d : DataW H} {ps : List MemPlace}
    (h : DataW.trod enc Tryz.prog w 0 (fun _ => true) true fuel 29 cs = some (d, ps)) (hw : ∀ n ∈ d.weights Tryz.prog 29, n ≤ reachBytes) :
    ∃ x, IsE w (Btw 0 w.heap.size) x (.agg cs.toArray) := by
  obtain ⟨xs, n, rfl, hx, hl, hlen, hf⟩ := DataW.trod_struct Tryz.underlying29 h
  rw [Tryz.cellsElem] at hl
  match cs, hl with
  | [c0, c1, c2, c3, c4, c5, c6, c7, c8, c9, c10], _ =>
  match xs, hlen with
  | [y0, y1, y2, y3, y4, y5], _ =>
  have h0 : DataW.trod enc Tryz.prog w 0 (fun _ => true) true n 3 (([c0, c1, c2, c3, c4, c5, c6, c7, c8, c9, c10].drop 0).take (Tryz.prog.cellsOf 3)) = some y0 := (by have g := hf 0 _ rfl; exact g)
  have h1 : DataW.trod enc Tryz.prog w 0 (fun _ => true) true n 9 (([c0, c1, c2, c3, c4, c5, c6, c7, c8, c9, c10].drop 1).take (Tryz.prog.cellsOf 9)) = some y1 := (by have g := hf 1 _ rfl; exact g)
  have h2 : DataW.trod enc Tryz.prog w 0 (fun _ => true) true n 23 (([c0, c1, c2, c3, c4, c5, c6, c7, c8, c9, c10].drop 2).take (Tryz.prog.cellsOf 23)) = some y2 := (by have g := hf 2 _ rfl; exact g)
  have h3 : DataW.trod enc Tryz.prog w 0 (fun _ => true) true n 24 (([c0, c1, c2, c3, c4, c5, c6, c7, c8, c9, c10].drop 3).take (Tryz.prog.cellsOf 24)) = some y3 := (by have g := hf 3 _ rfl; exact g)
  have h4 : DataW.trod enc Tryz.prog w 0 (fun _ => true) true n 27 (([c0, c1, c2, c3, c4, c5, c6, c7, c8, c9, c10].drop 4).take (Tryz.prog.cellsOf 27)) = some y4 := (by have g := hf 4 _ rfl; exact g)
  have h5 : DataW.trod enc Tryz.prog w 0 (fun _ => true) true n 3 (([c0, c1, c2, c3, c4, c5, c6, c7, c8, c9, c10].drop 10).take (Tryz.prog.cellsOf 3)) = some y5 := (by have g := hf 5 _ rfl; exact g)
  clear hf h
  simp only [Tryz.cellsInt, Tryz.cellsStr, Tryz.cellsStrs, Tryz.cellsVals, Tryz.cellsVal, List.drop_zero, List.drop_succ_cons, List.take_succ_cons, List.take_zero] at h0 h1 h2 h3 h4 h5
  simp only [Prod.mk.injEq] at hx
  obtain ⟨rfl, rfl⟩ := hx
  obtain ⟨k, e0, -, w0⟩ := DataW.trod_int Tryz.underlying3 h0
  obtain ⟨s, e1, -, w1⟩ := DataW.trod_string Tryz.underlying9 h1
  obtain ⟨m, e5, -, w5⟩ := DataW.trod_int Tryz.underlying3 h5
  simp only [DataW.weights, Tryz.underlying29, List.map_cons, List.map_nil, DataW.weightsEach, List.mem_append, List.append_nil] at hw
  obtain ⟨v2, ks, e2, hks⟩ := isStrs_of_trod (d := y2.1) (ps := y2.2) h2 (fun n hn => hw n (by simp [hn]))
  obtain ⟨a, c, l, e3, hlc, hl88, hvs⟩ := isL_of_trod n (d := y3.1) (ps := y3.2) h3 (fun n hn => hw n (by simp [hn]))
  obtain ⟨y, d0, d1, d2, d3, d4, d5, e4, hy⟩ := isV_of_trod n (d := y4.1) (ps := y4.2) h4 (fun n hn => hw n (by simp [hn]))
  simp only [List.cons.injEq, and_true] at e0 e1 e2 e3 e4 e5
  obtain ⟨rfl, rfl, rfl, rfl, rfl, rfl⟩ := e4
  subst e0 e1 e2 e3 e5
  obtain ⟨ak, ck, rfl, hr⟩ := hks
  exact ⟨⟨k, s, ks, l, y, m⟩, ak, ck, a, c, _, _, _, _, _, _, rfl, w0, w5, w1, ⟨ak, ck, rfl, hr⟩, hlc, hl88, hvs, hy⟩
set_option maxRecDepth 100000 in
/-- An argument of type impl.Elem. -/
theorem isE_of_arg {H : Type} {enc : TypeId × Value → H} {w : World} {v : Value} {d : DataW H} {ps : List MemPlace} {base : Nat} (hv : Value.okWide Tryz.prog w .any base 29 v)
    (h : DataW.Trod enc Tryz.prog w 0 (fun _ => true) true 29 v d ps) (hw : ∀ n ∈ d.weights Tryz.prog 29, n ≤ reachBytes) : ∃ x, IsE w (Btw 0 w.heap.size) x v := by
  obtain ⟨cs, rfl, _⟩ := okWide_struct Tryz.underlying29 hv
  obtain ⟨fuel, hf⟩ := h
  obtain ⟨x, hx⟩ := isE_of_trod fuel hf hw
  refine ⟨x, ?_⟩
  have e : cs.toList.toArray = cs := Array.toArray_toList
  have hx' : IsE w (Btw 0 w.heap.size) x (.agg cs.toList.toArray) := hx
  rwa [e] at hx'
end Go.Proofs.YtbbacpdbbmjblaaGreat
end
section
namespace Go.Proofs.YtbbacpdbbmjblaaGreat
open Go.ChangeShapes Go.WideShapes Go.ChangeAt Go.RowKit
set_option linter.unusedSimpArgs false
section
variable {H : Type} {enc : TypeId × Value → H} {w : World} {F : Nat → Prop}
theorem repAgg {l : List PD} {cs : List Value} : Rep w F (.agg l) (.agg cs.toArray) ↔ Reps w F l cs ∧ ∀ u ∈ cs, u.oneCell' = true := by
  unfold Rep
  constructor
  · rintro ⟨vs, e, h1, h2⟩
    simp only [Value.agg.injEq] at e
    have : cs = vs := by simpa using congrArg Array.toList e
    subst this
    exact ⟨h1, h2⟩
  · rintro ⟨h1, h2⟩
    exact ⟨cs, rfl, h1, h2⟩
theorem repL_of {α : Type} {pd : α → PD} {n b : Nat} : ∀ (m o : Nat), (∀ i, i < m → ∃ x cs, cs.length = n ∧ (∀ u ∈ cs, u.oneCell' = true) ∧ Lies w b (o + i * n) cs ∧ Rep w F (pd x) (.agg cs.toArray)) → ∃ l : List α, l.length = m ∧ RepL w F n (l.map pd) b o
  | 0, _, _ => ⟨[], rfl, by simp [RepL]⟩
  | m + 1, o, h => by
    obtain ⟨x, cs, h1, h2, h3, h4⟩ := h 0 (Nat.succ_pos _)
    obtain ⟨l, hl, hr⟩ := repL_of (pd := pd) (n := n) (b := b) m (o + n) (fun i hi => by
      obtain ⟨x, cs, g1, g2, g3, g4⟩ := h (i + 1) (by omega)
      exact ⟨x, cs, g1, g2, by rwa [show o + (i + 1) * n = o + n + i * n by rw [Nat.succ_mul]; omega] at g3, g4⟩)
    refine ⟨x :: l, by simp [hl], ?_⟩
    rw [List.map_cons]
    unfold RepL
    exact ⟨⟨_, h4, by simpa [Value.cells] using h1, by simpa [Value.cells] using h2, by simpa [Value.cells] using h3⟩, hr⟩
theorem slice_of_trod {α : Type} (pd : α → PD) (hpd : ∀ x, ∃ l, pd x = .agg l) {t e n y : Nat} (ht : Tryz.prog.underlying t = some (.slice e)) (hn : Tryz.prog.cellsOf e = n) (hn0 : 0 < n) (hy : Tryz.prog.bytesOf e = y) (hy0 : 0 < y) {fuel : Nat} {cs : List Value} {d : DataW H} {ps : List MemPlace}
    (h : DataW.trod enc Tryz.prog w 0 (fun _ => true) true fuel t cs = some (d, ps)) (hw : ∀ k ∈ d.weights Tryz.prog t, k ≤ reachBytes)
    (hi : ∀ fuel' cs' d' ps', fuel' < fuel → DataW.trod enc Tryz.prog w 0 (fun _ => true) true fuel' e cs' = some (d', ps') → (∀ k ∈ d'.weights Tryz.prog e, k ≤ reachBytes) → ∃ x, Rep w (Btw 0 w.heap.size) (pd x) (.agg cs'.toArray)) :
    ∃ (l : List α) (v : Value), cs = [v] ∧ Rep w (Btw 0 w.heap.size) (.sl n y (l.map pd)) v := by
  rcases DataW.trod_slice ht h with ⟨e5, -⟩ | ⟨a, len, cap, elems, rest, n', hn', e5, hx5, _, hlc, hm, hlen5, hel, _, _⟩
  · refine ⟨[], _, e5, ?_⟩
    unfold Rep
    exact ⟨none, 0, rfl, Nat.le_refl _, by simp, by simp, .inl rfl⟩
  · obtain ⟨rfl, _⟩ : d = _ ∧ ps = _ := by simpa only [Prod.mk.injEq] using hx5
    simp only [DataW.weights, ht, hy, List.length_map] at hw
    have hsz := hw ((elems.length + rest.length) * y) (by simp)
    simp only [reachBytes] at hsz
    rw [hn] at hel
    have key : ∀ i, i < len → ∃ (x : α) (cs' : List Value), cs'.length = n ∧ (∀ j, j < n → w.cell? ((a.add (i * n)).add j) = cs'[j]?) ∧ Rep w (Btw 0 w.heap.size) (pd x) (.agg cs'.toArray) := by
      intro i hi'
      have hb := hel i hi'
      obtain ⟨z, hz⟩ : ∃ z, elems[i]? = some z := ⟨elems[i], by simp [hlen5, hi']⟩
      rw [hz, Option.bind_eq_some_iff] at hb
      obtain ⟨cs', hcs, hb⟩ := hb
      obtain ⟨x, hx⟩ := hi n' cs' z.1 z.2 (by omega) hb (fun q hq => hw q (by
        simp only [List.mem_cons, List.mem_append]
        exact .inr (.inl (weights_mem_all (List.mem_map_of_mem (List.mem_of_getElem? hz)) q hq))))
      obtain ⟨_, h1, h2⟩ := World.cells?_some hcs
      exact ⟨x, cs', h1, h2, hx⟩
    have hlenB : len * y ≤ 140737488351232 := by
      have : len * y ≤ (elems.length + rest.length) * y := Nat.mul_le_mul_right _ (by omega)
      omega
    have hlenS : len ≤ 140737488351232 := Nat.le_trans (Nat.le_mul_of_pos_right _ hy0) hlenB
    by_cases hl0 : len = 0
    · subst hl0
      refine ⟨[], _, e5, ?_⟩
      unfold Rep
      exact ⟨some a, cap, rfl, Nat.zero_le _, by simp, by simp, .inl rfl⟩
    · obtain ⟨x0, cs0, g1, g2, g3⟩ := key 0 (by omega)
      have g0 : ∃ u, w.cell? ((a.add (0 * n)).add 0) = some u := ⟨cs0[0]'(by omega), by rw [g2 0 hn0]; simp⟩
      obtain ⟨u0, g0⟩ := g0
      have hspot : a.spot = none := by simpa [Addr.add] using World.cell?_spot g0
      have hlt := World.block_lt_of_cell? w _ g0
      obtain ⟨b, o, sp⟩ := a
      subst hspot
      simp only [add_plain] at key hlt
      obtain ⟨l, hll, hvs⟩ := repL_of (pd := pd) (n := n) (b := b) (F := Btw 0 w.heap.size) (w := w) len o (fun i hi' => by
        obtain ⟨x, cs', k1, k2, k3⟩ := key i hi'
        obtain ⟨q, hq⟩ := hpd x
        refine ⟨x, cs', k1, ?_, fun j u hj => ?_, k3⟩
        · rw [hq] at k3
          exact (repAgg.1 k3).2
        · rw [k2 j (by have := (List.getElem?_eq_some_iff.1 hj).1; omega)]
          exact hj)
      refine ⟨l, _, e5, ?_⟩
      unfold Rep
      rw [List.length_map]
      exact ⟨_, cap, by rw [hll], by omega, by rw [hll]; exact hlenB, by rw [hll]; exact hlenS, .inr ⟨b, o, ⟨Nat.zero_le _, by simpa using hlt⟩, rfl, hvs⟩⟩
end
section
variable {H : Type} {enc : TypeId × Value → H} {w : World}
set_option maxRecDepth 100000
set_option maxHeartbeats 2000000
end
end Go.Proofs.YtbbacpdbbmjblaaGreat
end
section
namespace Go.Proofs.YtbbacpdbbmjblaaGreat
open Go.ChangeShapes Go.WideShapes Go.ChangeAt Go.RowKit
theorem Tryz.bytesElem : Tryz.prog.bytesOf 29 = 168 := by kernel_rfl
section
variable {H : Type} {enc : TypeId × Value → H} {w : World}
set_option maxRecDepth 100000
set_option maxHeartbeats 2000000
theorem pdE_agg (x : EV) : ∃ l, pdE x = .agg l := ⟨_, rfl⟩
theorem openLE (fuel : Nat) {cs : List Value} {d : DataW H} {ps : List MemPlace} (h : DataW.trod enc Tryz.prog w 0 (fun _ => true) true fuel 22 cs = some (d, ps)) (hw : ∀ k ∈ d.weights Tryz.prog 22, k ≤ reachBytes) : ∃ (l : List EV) (v : Value), cs = [v] ∧ Rep w (Btw 0 w.heap.size) (.sl 11 168 (l.map pdE)) v :=
  slice_of_trod pdE pdE_agg Tryz.underlying22 Tryz.cellsElem (by omega) Tryz.bytesElem (by omega) h hw (fun f' cs' d' ps' hlt h' hw' => by
    obtain ⟨x, hx⟩ := isE_of_trod f' h' hw'
    exact ⟨x, isE_rep hx⟩)
end
end Go.Proofs.YtbbacpdbbmjblaaGreat
end
