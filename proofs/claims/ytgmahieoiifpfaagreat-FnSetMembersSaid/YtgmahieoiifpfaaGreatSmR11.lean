/- Part 11 of what the proof rests on. -/
import Derived.Maps.AppendAt
import Derived.Deep.AppendLies
import Derived.Deep.Draws
import Derived.RegionTactic
import Derived.Deep.QuietTactic
import Derived.BigQuiet
import Derived.ProofKit
import Derived.SizedLaws
import Derived.JoinedOf
import Derived.WalkKit
import Derived.Test.YtgmahieoiifpfaaGreatSmR1
import Derived.Test.YtgmahieoiifpfaaGreatSmR4
import Derived.Test.YtgmahieoiifpfaaGreatSmR5
import Derived.Test.YtgmahieoiifpfaaGreatSmR6
import Derived.Test.YtgmahieoiifpfaaGreatSmR8
import Derived.Test.YtgmahieoiifpfaaGreatSmR9
import Derived.Test.YtgmahieoiifpfaaGreatSmR10
section
set_option linter.unusedVariables false
namespace Go.Proofs.YtgmahieoiifpfaaGreat
open Go.RowKit
set_option linter.unusedSimpArgs false
theorem fromValue_p (j : JV) : PCall Tryz.prog 70 [dvV j] (qV (unJ j)) := by
  have c1 := unstr_p j
  have c2 := fromTree_p j
  unfold dvV qV at *
  refine pcall_of_run Tryz.func70 rfl Tryz.ntmps70 rfl (fun X => ?_)
  exact wke
/-- A key is not too long for a list of values. -/
def KL (p : PEV) : Prop := ∀ fl, p = .key fl → fl.length * 88 ≤ 140737488351232
set_option maxHeartbeats 8000000 in
theorem fromElem_q (p : PEV) (hk : KL p) : PCall Tryz.prog 85 [dvPE p] (pdE (unPE p)) := by
  cases p with
  | name s =>
    simp only [dvPE, unPE, pdE, nilP, gNull]
    refine pcall_of_run Tryz.func85 rfl Tryz.ntmps85 rfl (fun X => ?_)
    exact wke
  | val j =>
    have c := fromValue_p j
    simp only [dvPE, unPE, pdE, nilP]
    generalize unJ j = y at *
    unfold dvV qV at *
    refine pcall_of_run Tryz.func85 rfl Tryz.ntmps85 rfl (fun X => ?_)
    exact wke
  | idx n =>
    simp only [dvPE, unPE, pdE, nilP, gNull]
    refine pcall_of_run Tryz.func85 rfl Tryz.ntmps85 rfl (fun X => ?_)
    exact wke
  | key fl =>
    have hl := hk fl rfl
    clear hk
    simp only [dvPE, unPE, dvFl, nilP]
    have n1 : (fl.map dvFld).length = fl.length := by simp
    refine pcall_of_run Tryz.func85 rfl Tryz.ntmps85 rfl (fun X => ?_)
    refine wk ?_
    refine run_nilOwnB 3 2 100 9 1 16 rfl rfl rfl ?_
    refine run_nilOwnB 3 3 101 27 6 88 rfl rfl rfl ?_
    refine run_loopS (ι := { k : Nat // k ≤ fl.length })
      (fun k => [(2, .ptr 2 0), (3, .ptr 3 0), (23, .dat (.sl 2 32 (fl.map dvFld))), (24, .dat (.val (.int .i64 ((fl.map dvFld).length : Nat)))), (25, .dat (.val (.int .i64 (k.1 : Nat))))])
      (fun k => [(2, .box 29 (cellsD (pdE ⟨0, ByteArray.empty, [], [], gNull, 0⟩))), (3, .box 29 [.dat (.val (.int .i64 1)), .dat (.val (.string ⟨#[]⟩)), .own 100, .own 101, .dat (.val (.int .i64 0)), .dat (.val (.int .i64 0)), .dat (.val (.float .f64 0)), .dat (.val (.string ⟨#[]⟩)), .dat (.val (.slice none 0 0)), .dat (.val (.slice none 0 0)), .dat (.val (.int .i64 0))]), (100, .row 9 1 16 ((fl.take k.1).map fun x => .val (.string x.1))), (101, .row 27 6 88 ((fl.take k.1).map fun x => qV (unJ x.2)))]) (fun k => fl.length - k.1) ⟨0, Nat.zero_le _⟩ id ?_ ?_
    · exact sb
    rintro ⟨k, hk⟩
    by_cases hlt : k < fl.length
    · have hc : decide ((k : Int) < (((fl.map dvFld).length : Nat) : Int)) = true := decide_eq_true (by omega)
      obtain ⟨x, hx⟩ : ∃ x, fl[k]? = some x := ⟨_, List.getElem?_eq_getElem hlt⟩
      have i1 : (fl.map dvFld)[((k : Nat) : Int).toNat]? = some (.agg [.val (.string x.1), dvV x.2]) := by simp [hx, dvFld]
      have c := fromValue_p x.2
      have e1 : ((fl.take (k + 1)).map fun x => PD.val (.string x.1)) = ((fl.take k).map fun x => PD.val (.string x.1)) ++ [.val (.string x.1)] := by simp [List.take_add_one, hx]
      have e2 : ((fl.take (k + 1)).map fun x => qV (unJ x.2)) = ((fl.take k).map fun x => qV (unJ x.2)) ++ [qV (unJ x.2)] := by simp [List.take_add_one, hx]
      have l1 : ((fl.take k).map fun x => PD.val (.string x.1)).length + 1 ≤ fl.length := by simp; omega
      have l2 : ((fl.take k).map fun x => qV (unJ x.2)).length + 1 ≤ fl.length := by simp; omega
      generalize ((fl.take k).map fun x => PD.val (.string x.1)) = da at *
      generalize ((fl.take k).map fun x => qV (unJ x.2)) = db at *
      generalize unJ x.2 = y at *
      unfold qV at *
      have q1 : (da.length + [PD.val (.string x.1)].length) * 16 ≤ 140737488351232 := by simp; omega
      have q2 : da.length + [PD.val (.string x.1)].length ≤ 140737488351232 := by simp; omega
      refine wk ?_
      refine run_again ?_
      refine ⟨⟨k + 1, by omega⟩, (fun j => if j = 100 then 34 else if j = 101 then 42 else j), by simp only; omega, ?_⟩
      rw [e1, e2]
      exact sb
    · have hc : decide ((k : Int) < (((fl.map dvFld).length : Nat) : Int)) = false := decide_eq_false (by omega)
      have hkk : fl.take k = fl := List.take_of_length_le (by omega)
      simp only [hkk]
      have e1 : pdS (fl.map (·.1)) = fl.map fun x => PD.val (.string x.1) := by simp [pdS]
      have e2 : pdVs (fl.map fun p => unJ p.2) = fl.map fun x => qV (unJ x.2) := by rw [pdVs_eq, List.map_map]; exact List.map_congr_left fun x _ => pdV_q _
      simp only [pdE, e1, e2, gNull]
      refine wk ?_
      refine run_frz (fun _ => false) (fun k => k == 100 || k == 101) ?_
      exact wke
end Go.Proofs.YtgmahieoiifpfaaGreat
end
section
set_option linter.unusedVariables false
namespace Go.Proofs.YtgmahieoiifpfaaGreat
open Go.RowKit
set_option linter.unusedSimpArgs false
/-- What a state may be seen as, inside a region. -/
theorem k_lift {P : Program} {X : Base} {N : Nat} {Q : Exit → Act → World → Prop} {opa : Array Oper} {rem : List Nat} {ks : List Itm} {s s2 : Sta} {d : Option Tmp} {op : Op} (hl : ∀ (Q : Exit → Act → World → Prop) (ks : List Itm), Run P X N Q ks s2 → Run P X N Q ks s) (h : RunK P X N Q opa rem ks d op s2) : RunK P X N Q opa rem ks d op s :=
  ⟨fun ty pos aft => ⟨fun hX a w hc => (h.out ty pos aft).out hX a w ((hl (fun _ a w => Conc X s2 a w) [] (run_end fun a w hc => hc)).out hX a w hc)⟩⟩
theorem addElem_c (p : PEV) (hk : KL p) (acc : List PD) (hb : (acc.length + 1) * 168 ≤ 140737488351232) :
    ACall1 Tryz.prog 142 [.dat (dvPE p), .ptr 1000 0] [(1000, .box 22 [.own 1001]), (1001, .row 29 11 168 acc)] (.dat (.tup [])) [(1000, .box 22 [.own 0]), (0, .row 29 11 168 (acc ++ [pdE (unPE p)])), (1001, .dead)] := by
  have c1 := fromElem_q p hk
  obtain ⟨u0, u1, u2, u3, e⟩ := dvPE_agg p
  rw [e] at c1 ⊢
  have hbt : (acc.length + [pdE (unPE p)].length) * 168 ≤ 140737488351232 := by simpa using hb
  have hbl : acc.length + [pdE (unPE p)].length ≤ 140737488351232 := by simp only [List.length_cons, List.length_nil]; omega
  unfold pdE at c1 hbt hbl ⊢
  refine acall_of_run Tryz.func142 rfl Tryz.ntmps142 rfl (fun X => ?_)
  refine wk ?_
  refine run_endA () (fun j => if j = 0 then 7 else j) (tm := []) ?_ (resA_none rfl)
  exact sb
set_option maxHeartbeats 8000000 in
theorem iter_c (l : List PEV) (hk : ∀ p ∈ l, KL p) (hn : l.length ≤ 2147483648) :
    ACall1 Tryz.prog 141 [.dat (.ptr (.agg [.sl 4 32 (l.map dvPE)])), .clo 142 [.ptr 1000 0]] [(1000, .box 22 [.own 1001]), (1001, .row 29 11 168 [])] (.dat (.tup [])) [(1000, .box 22 [.own 0]), (0, .row 29 11 168 (l.map fun p => pdE (unPE p))), (1001, .dead)] := by
  have n1 : (l.map dvPE).length = l.length := by simp
  have ga : ∀ {i : Nat} {x : PEV}, l[i]? = some x → (l.map dvPE)[((i : Nat) : Int).toNat]? = some (dvPE x) := fun h => by simp [h]
  generalize l.map dvPE = da at *
  refine acall_of_run Tryz.func141 rfl Tryz.ntmps141 rfl (fun X => ?_)
  refine wk ?_
  refine run_loopS (ι := { k : Nat // k ≤ l.length })
    (fun k => [(1, .clo 142 [.ptr 1000 0]), (9, .dat (.sl 4 32 da)), (10, .dat (.val (.int .i64 ((da.length : Nat) : Int)))), (11, .dat (.val (.int .i64 (k.1 : Nat))))])
    (fun k => [(1000, .box 22 [.own 100]), (100, .row 29 11 168 ((l.take k.1).map fun p => pdE (unPE p))), (1001, .dead)]) (fun k => l.length - k.1) ⟨0, Nat.zero_le _⟩ (fun j => if j = 100 then 1001 else j) ?_ ?_
  · exact sb
  rintro ⟨k, hkl⟩
  by_cases hlt : k < l.length
  · have hc : decide ((k : Int) < ((da.length : Nat) : Int)) = true := decide_eq_true (by omega)
    obtain ⟨p, hp⟩ : ∃ p, l[k]? = some p := ⟨_, List.getElem?_eq_getElem hlt⟩
    have hi := ga hp
    have c1 := addElem_c p (hk p (List.mem_of_getElem? hp)) ((l.take k).map fun p => pdE (unPE p)) (by simp; omega)
    have e2 : ((l.take k).map fun p => pdE (unPE p)) ++ [pdE (unPE p)] = (l.take (k + 1)).map fun p => pdE (unPE p) := by simp [List.take_add_one, hp]
    rw [e2] at c1
    obtain ⟨u0, u1, u2, u3, e⟩ := dvPE_agg p
    rw [e] at hi c1
    refine wk ?_
    refine k_cloA1 (thk [(1000, 1000), (1001, 100)] 200) rfl rfl (by kernel_rfl) c1 rfl ⟨rfl, rfl, trivial⟩ rfl (freshB_ok rfl) rfl ?_
    refine wk ?_
    refine run_again ?_
    refine ⟨⟨k + 1, by omega⟩, (fun j => if j = 100 then 200 else j), by simp only; omega, ?_⟩
    exact sb
  · have hc : decide ((k : Int) < ((da.length : Nat) : Int)) = false := decide_eq_false (by omega)
    have hkk : l.take k = l := List.take_of_length_le (by omega)
    simp only [hkk]
    refine wk ?_
    refine run_endA () (fun j => if j = 0 then 100 else j) (tm := []) ?_ (resA_none rfl)
    exact sb
set_option maxHeartbeats 8000000 in
theorem fromElemSet_p (l : List PEV) (hk : ∀ p ∈ l, KL p) (hn : l.length ≤ 2147483648) : PCall Tryz.prog 78 [.ptr (.agg [.sl 4 32 (l.map dvPE)])] (.sl 11 168 (l.map fun p => pdE (unPE p))) := by
  have c1 := iter_c l hk hn
  generalize l.map dvPE = da at *
  generalize (l.map fun p => pdE (unPE p)) = db at *
  refine pcall_of_run Tryz.func78 rfl Tryz.ntmps78 rfl (fun X => ?_)
  refine wk ?_
  refine k_lift (fun _ _ => run_nilOwnB 3 0 100 29 11 168 rfl rfl rfl) ?_
  refine k_acall1 (thk [(1000, 3), (1001, 100)] 200) rfl (by kernel_rfl) c1 rfl ⟨rfl, rfl, trivial⟩ rfl (freshB_ok rfl) rfl ?_
  refine wk ?_
  refine run_frz (fun _ => false) (fun k => k == 200) ?_
  exact wke
set_option maxHeartbeats 8000000 in
theorem setMembers_p (ps : List (List EV)) (hO : ∀ p ∈ ps, ∀ x ∈ p, OPE (toPE x) ∧ KL (toPE x)) (hn : ps.length ≤ 2147483647) : PCall Tryz.prog 23 [.sl 1 24 (ps.map pdP)] (.sl 11 168 ((ofP cmpPE (ps.map (·.map toPE))).m.map fun p => pdE (unPE p))) := by
  have c1 := toSet_p ps (fun p hp x hx => (hO p hp x hx).1) hn
  have hW : WFT cmpPE (fun p => OPE p ∧ KL p) (ofP cmpPE (ps.map (·.map toPE))) := ofP_WFT (P := fun p => OPE p ∧ KL p) ⟨fun a b d ha hb hd => ordPE.1 a b d ha.1 hb.1 hd.1, fun a b ha hb => ordPE.2 a b ha.1 hb.1⟩ (fun p hp x hx => by
    obtain ⟨q, hq, rfl⟩ := List.mem_map.1 hp
    obtain ⟨y, hy, rfl⟩ := List.mem_map.1 hx
    exact hO q hq y hy)
  have hZ := ofP_SzT (c := cmpPE) (ps.map (·.map toPE))
  rw [List.length_map] at hZ
  generalize ofP cmpPE (ps.map (·.map toPE)) = t at *
  obtain ⟨m, ch⟩ := t
  have hw := (WFT_iff.1 hW).1
  have hz := (SzT_iff.1 hZ).1
  simp only [ST.m] at hw hz ⊢
  have c2 := fromElemSet_p m (fun p hp => (hw p hp).2) (by omega)
  unfold dvSet at c1
  generalize m.map dvPE = da at *
  generalize dvNodes ch = dc at *
  generalize (m.map fun p => pdE (unPE p)) = db at *
  refine pcall_of_run Tryz.func23 rfl Tryz.ntmps23 rfl (fun X => ?_)
  exact wke
end Go.Proofs.YtgmahieoiifpfaaGreat
end
section
set_option linter.unusedVariables false
namespace Go.Proofs.YtgmahieoiifpfaaGreat
open Go.RowKit
set_option linter.unusedSimpArgs false
theorem pdP_at {l : List EV} {i : Nat} {x : EV} (h : l[i]? = some x) : (l.map pdE)[((i : Nat) : Int).toNat]? = some (pdE x) := by simp [h]
set_option maxHeartbeats 8000000 in
theorem cleanPath_p (l : List EV) : PCall Tryz.prog 80 [pdP l] (pdP (l.map cleanE)) := by
  refine pcall_fits fun hfit => ?_
  unfold pdP at *
  have b0 := (hfit (.sl 11 168 (l.map pdE)) (by simp)).sl
  clear hfit
  have n1 : (l.map pdE).length = l.length := by simp
  have b1 := b0.1
  have b2 := b0.2.1
  rw [n1] at b1 b2
  clear b0
  have m1 : (l.map pdE).length * 168 ≤ 140737488351232 := by rw [n1]; exact b1
  have m2 : (l.map pdE).length ≤ 140737488351232 := by rw [n1]; exact b2
  refine pcall_of_run Tryz.func80 rfl Tryz.ntmps80 rfl (fun X => ?_)
  refine wk ?_
  refine run_loopS (ι := { k : Nat // k ≤ l.length })
    (fun k => [(3, .own 100), (9, .dat (.sl 11 168 (l.map pdE))), (10, .dat (.val (.int .i64 (((l.map pdE).length : Nat) : Int)))), (11, .dat (.val (.int .i64 (k.1 : Nat))))])
    (fun k => [(100, .row 29 11 168 ((l.take k.1).map fun x => pdE (cleanE x)))]) (fun k => l.length - k.1) ⟨0, Nat.zero_le _⟩ (fun j => if j = 100 then 8 else j) ?_ ?_
  · exact sb
  rintro ⟨k, hk⟩
  by_cases hlt : k < l.length
  · have hc : decide ((k : Int) < (((l.map pdE).length : Nat) : Int)) = true := decide_eq_true (by omega)
    obtain ⟨x, hx⟩ : ∃ x, l[k]? = some x := ⟨_, List.getElem?_eq_getElem hlt⟩
    have hi := pdP_at hx
    have c1 := cleanE_q x
    have hbt : (((l.take k).map fun x => pdE (cleanE x)).length + [pdE (cleanE x)].length) * 168 ≤ 140737488351232 := by simp; omega
    have hbl : ((l.take k).map fun x => pdE (cleanE x)).length + [pdE (cleanE x)].length ≤ 140737488351232 := by simp; omega
    have e : ((l.take (k + 1)).map fun x => pdE (cleanE x)) = ((l.take k).map fun x => pdE (cleanE x)) ++ [pdE (cleanE x)] := by simp [List.take_add_one, hx]
    have e := e.symm
    generalize ((l.take k).map fun x => pdE (cleanE x)) = r1 at *
    unfold pdE at hi c1 hbt hbl
    refine wk ?_
    refine run_again ?_
    refine ⟨⟨k + 1, by omega⟩, (fun j => if j = 100 then 19 else j), by simp only; omega, ?_⟩
    exact sb
  · have hc : decide ((k : Int) < (((l.map pdE).length : Nat) : Int)) = false := decide_eq_false (by omega)
    have hkk : l.take k = l := List.take_of_length_le (by omega)
    simp only [hkk]
    refine run_frz (fun _ => false) (fun k => k == 100) ?_
    have e : PD.sl 11 168 (l.map fun x => pdE (cleanE x)) = .sl 11 168 ((l.map cleanE).map pdE) := by rw [List.map_map]; rfl
    exact wke
theorem cw_step {α : Type} {c : α → α → Int} {x y : α} (h : c x y = 0) (a b : List α) : cw c (x :: a) (y :: b) = cw c a b := by
  rw [cw_cons, h]
  cases a with
  | nil => cases b with
    | nil => rfl
    | cons _ _ => rfl
  | cons x' a => cases b with
    | nil => rfl
    | cons y' b => rfl
theorem cw_end {α : Type} {c : α → α → Int} : ∀ {a b : List α}, (a = [] ∨ b = []) → cw c a b = cmpI a.length b.length
  | [], [], _ => rfl
  | [], y :: b, _ => by
    unfold cw cmpI
    simp only [List.length_nil, List.length_cons]
    rw [if_pos (by omega)]
  | x :: a, [], _ => by
    unfold cw cmpI
    simp only [List.length_nil, List.length_cons]
    rw [if_neg (by omega), if_pos (by omega)]
  | x :: a, y :: b, h => by rcases h with h | h <;> cases h
theorem drop_at {α : Type} {l : List α} {i : Nat} {x : α} (h : l[i]? = some x) : l.drop i = x :: l.drop (i + 1) := by
  obtain ⟨h1, h2⟩ := List.getElem?_eq_some_iff.1 h
  rw [List.drop_eq_getElem_cons h1, h2]
set_option maxHeartbeats 8000000 in
theorem walkCompare_p (a b : List EV) : PCall Tryz.prog 143 [pdP a, pdP b] (.val (.int .i64 (cw cmpE a b))) := by
  refine pcall_fits fun hfit => ?_
  unfold pdP at *
  have b1 := (hfit (.sl 11 168 (a.map pdE)) (by simp)).sl.2.1
  have b2 := (hfit (.sl 11 168 (b.map pdE)) (by simp)).sl.2.1
  clear hfit
  have n1 : (a.map pdE).length = a.length := by simp
  have n2 : (b.map pdE).length = b.length := by simp
  have ga : ∀ {i : Nat} {x : EV}, a[i]? = some x → (a.map pdE)[((i : Nat) : Int).toNat]? = some (pdE x) := pdP_at
  have gb : ∀ {i : Nat} {x : EV}, b[i]? = some x → (b.map pdE)[((i : Nat) : Int).toNat]? = some (pdE x) := pdP_at
  have c0 := sInts_p ((a.map pdE).length : Nat) ((b.map pdE).length : Nat)
  generalize a.map pdE = da at *
  generalize b.map pdE = db at *
  generalize hr : cw cmpE a b = r
  refine pcall_of_run Tryz.func143 rfl Tryz.ntmps143 rfl (fun X => ?_)
  refine wk ?_
  refine run_loopS (ι := { i : Nat // i ≤ a.length ∧ i ≤ b.length ∧ cw cmpE (a.drop i) (b.drop i) = r })
    (fun i => [(0, .dat (.sl 11 168 da)), (1, .dat (.sl 11 168 db)), (5, .dat (.val (.int .i64 (i.1 : Nat))))]) (fun _ => []) (fun i => a.length - i.1) ⟨0, Nat.zero_le _, Nat.zero_le _, hr⟩ id ?_ ?_
  · exact sb
  rintro ⟨i, hi1, hi2, hi3⟩
  by_cases h1 : i < a.length
  · have g1 : decide ((i : Int) < ((da.length : Nat) : Int)) = true := decide_eq_true (by omega)
    obtain ⟨x, hx⟩ : ∃ x, a[i]? = some x := ⟨_, List.getElem?_eq_getElem h1⟩
    by_cases h2 : i < b.length
    · have g2 : decide ((i : Int) < ((db.length : Nat) : Int)) = true := decide_eq_true (by omega)
      obtain ⟨y, hy⟩ : ∃ y, b[i]? = some y := ⟨_, List.getElem?_eq_getElem h2⟩
      have i1 := ga hx
      have i2 := gb hy
      have c1 := cmpElems_p x y
      rw [drop_at hx, drop_at hy] at hi3
      unfold pdE at i1 i2 c1
      by_cases h3 : cmpE x y = 0
      · rw [cw_step h3] at hi3
        have g3 : decide (cmpE x y = 0) = true := decide_eq_true h3
        refine wk ?_
        refine run_again ?_
        refine ⟨⟨i + 1, by omega, by omega, hi3⟩, id, by simp only; omega, ?_⟩
        exact sb
      · have g3 : decide (cmpE x y = 0) = false := decide_eq_false h3
        have en0 : ∀ {l : List EV} {k : Nat}, k + 1 = l.length → en (l.drop (k + 1)) = 0 := fun h => by rw [List.drop_eq_nil_of_le (by omega)]; rfl
        have en1 : ∀ {l : List EV} {k : Nat}, k + 1 < l.length → en (l.drop (k + 1)) = 1 := fun h => en_ne fun e => by
          have := congrArg List.length e
          rw [List.length_drop] at this
          simp at this
          omega
        rw [cw_cons] at hi3
        by_cases ea : i + 1 = a.length <;> by_cases eb : i + 1 = b.length
        · have g4 : decide ((i : Int) = ((da.length : Nat) : Int) - 1) = true := decide_eq_true (by omega)
          have g5 : decide ((i : Int) = ((db.length : Nat) : Int) - 1) = true := decide_eq_true (by omega)
          have g6 : (!(decide ((i : Int) = ((da.length : Nat) : Int) - 1) == decide ((i : Int) = ((db.length : Nat) : Int) - 1))) = false := by rw [g4, g5]; rfl
          rw [en0 ea, en0 eb, lx_zero (show cmpI 0 0 = 0 from rfl), lx_pos h3] at hi3
          subst hi3
          exact wke
        · have g4 : decide ((i : Int) = ((da.length : Nat) : Int) - 1) = true := decide_eq_true (by omega)
          have g5 : decide ((i : Int) = ((db.length : Nat) : Int) - 1) = false := decide_eq_false (by omega)
          have g6 : (!(decide ((i : Int) = ((da.length : Nat) : Int) - 1) == decide ((i : Int) = ((db.length : Nat) : Int) - 1))) = true := by rw [g4, g5]; rfl
          rw [en0 ea, en1 (by omega), lx_pos (by decide)] at hi3
          have hi3 : r = -1 := hi3.symm
          subst hi3
          exact wke
        · have g4 : decide ((i : Int) = ((da.length : Nat) : Int) - 1) = false := decide_eq_false (by omega)
          have g5 : decide ((i : Int) = ((db.length : Nat) : Int) - 1) = true := decide_eq_true (by omega)
          have g6 : (!(decide ((i : Int) = ((da.length : Nat) : Int) - 1) == decide ((i : Int) = ((db.length : Nat) : Int) - 1))) = true := by rw [g4, g5]; rfl
          rw [en1 (by omega), en0 eb, lx_pos (by decide)] at hi3
          have hi3 : r = 1 := hi3.symm
          subst hi3
          exact wke
        · have g4 : decide ((i : Int) = ((da.length : Nat) : Int) - 1) = false := decide_eq_false (by omega)
          have g5 : decide ((i : Int) = ((db.length : Nat) : Int) - 1) = false := decide_eq_false (by omega)
          have g6 : (!(decide ((i : Int) = ((da.length : Nat) : Int) - 1) == decide ((i : Int) = ((db.length : Nat) : Int) - 1))) = false := by rw [g4, g5]; rfl
          rw [en1 (by omega), en1 (by omega), lx_zero (show cmpI 1 1 = 0 from rfl), lx_pos h3] at hi3
          subst hi3
          exact wke
    · have g2 : decide ((i : Int) < ((db.length : Nat) : Int)) = false := decide_eq_false (by omega)
      have e : cmpI ((da.length : Nat) : Int) ((db.length : Nat) : Int) = r := by
        rw [← hi3, cw_end (.inr (List.drop_eq_nil_of_le (by omega)))]
        unfold cmpI
        simp only [List.length_drop]
        repeat' split
        all_goals omega
      rw [e] at c0
      exact wke
  · have g1 : decide ((i : Int) < ((da.length : Nat) : Int)) = false := decide_eq_false (by omega)
    have e : cmpI ((da.length : Nat) : Int) ((db.length : Nat) : Int) = r := by
      rw [← hi3, cw_end (.inl (List.drop_eq_nil_of_le (by omega)))]
      unfold cmpI
      simp only [List.length_drop]
      repeat' split
      all_goals omega
    rw [e] at c0
    exact wke
/-- The second list begins the first one. -/
def preL {α : Type} (f : α → α → Bool) : List α → List α → Bool
  | _, [] => true
  | [], _ :: _ => false
  | x :: a, y :: b => f x y && preL f a b
set_option maxHeartbeats 8000000 in
theorem hasPrefix_p (a b : List EV) : PCall Tryz.prog 139 [pdP a, pdP b] (.val (.bool (preL eqE a b))) := by
  refine pcall_fits fun hfit => ?_
  unfold pdP at *
  have b1 := (hfit (.sl 11 168 (a.map pdE)) (by simp)).sl.2.1
  have b2 := (hfit (.sl 11 168 (b.map pdE)) (by simp)).sl.2.1
  clear hfit
  have n1 : (a.map pdE).length = a.length := by simp
  have n2 : (b.map pdE).length = b.length := by simp
  have ga : ∀ {i : Nat} {x : EV}, a[i]? = some x → (a.map pdE)[((i : Nat) : Int).toNat]? = some (pdE x) := pdP_at
  have gb : ∀ {i : Nat} {x : EV}, b[i]? = some x → (b.map pdE)[((i : Nat) : Int).toNat]? = some (pdE x) := pdP_at
  generalize a.map pdE = da at *
  generalize b.map pdE = db at *
  generalize hr : preL eqE a b = r
  have hlen : ∀ {a b : List EV}, a.length < b.length → preL eqE a b = false := by
    intro a
    induction a with
    | nil => intro b h; cases b with
      | nil => simp at h
      | cons _ _ => rfl
    | cons x a ih => intro b h; cases b with
      | nil => simp at h
      | cons y b => unfold preL; rw [ih (by simpa using h), Bool.and_false]
  by_cases hl : a.length < b.length
  · rw [hlen hl] at hr
    subst hr
    have g1 : decide (((da.length : Nat) : Int) < ((db.length : Nat) : Int)) = true := decide_eq_true (by omega)
    refine pcall_of_run Tryz.func139 rfl Tryz.ntmps139 rfl (fun X => ?_)
    exact wke
  have g1 : decide (((da.length : Nat) : Int) < ((db.length : Nat) : Int)) = false := decide_eq_false (by omega)
  refine pcall_of_run Tryz.func139 rfl Tryz.ntmps139 rfl (fun X => ?_)
  refine wk ?_
  refine run_loopS (ι := { i : Nat // i ≤ b.length ∧ preL eqE (a.drop i) (b.drop i) = r })
    (fun i => [(0, .dat (.sl 11 168 da)), (1, .dat (.sl 11 168 db)), (12, .dat (.val (.int .i64 ((db.length : Nat) : Int)))), (13, .dat (.val (.int .i64 (i.1 : Nat))))]) (fun _ => []) (fun i => b.length - i.1) ⟨0, Nat.zero_le _, hr⟩ id ?_ ?_
  · exact sb
  rintro ⟨i, hi1, hi3⟩
  by_cases h1 : i < b.length
  · have g2 : decide ((i : Int) < ((db.length : Nat) : Int)) = true := decide_eq_true (by omega)
    obtain ⟨x, hx⟩ : ∃ x, a[i]? = some x := ⟨_, List.getElem?_eq_getElem (by omega)⟩
    obtain ⟨y, hy⟩ : ∃ y, b[i]? = some y := ⟨_, List.getElem?_eq_getElem h1⟩
    have i1 := ga hx
    have i2 := gb hy
    have c1 := eqElems_p x y
    rw [drop_at hx, drop_at hy] at hi3
    unfold preL at hi3
    unfold pdE at i1 i2 c1
    cases h3 : eqE x y with
    | true =>
      rw [h3] at hi3 c1
      refine wk ?_
      refine run_again ?_
      refine ⟨⟨i + 1, by omega, hi3⟩, id, by simp only; omega, ?_⟩
      exact sb
    | false =>
      rw [h3] at hi3 c1
      have hi3 : false = r := hi3
      subst hi3
      exact wke
  · have g2 : decide ((i : Int) < ((db.length : Nat) : Int)) = false := decide_eq_false (by omega)
    rw [show b.drop i = [] from List.drop_eq_nil_of_le (by omega)] at hi3
    have hi3 : true = r := by rw [← hi3]; cases a.drop i <;> rfl
    subst hi3
    exact wke
theorem eqLx_pre {α : Type} (f : α → α → Bool) : ∀ (a b : List α), eqLx f a b = (decide (a.length = b.length) && preL f a b)
  | [], [] => rfl
  | [], y :: b => by simp [eqLx]
  | x :: a, [] => by simp [eqLx]
  | x :: a, y :: b => by
    unfold eqLx preL
    rw [eqLx_pre f a b]
    simp only [List.length_cons, Nat.add_right_cancel_iff]
    cases f x y <;> simp
set_option maxHeartbeats 8000000 in
theorem specEqPaths_p (a b : List EV) : PCall Tryz.prog 76 [pdP a, pdP b] (.val (.bool (eqLx eqE a b))) := by
  have c1 := hasPrefix_p a b
  rw [eqLx_pre]
  unfold pdP at *
  have n1 : (a.map pdE).length = a.length := by simp
  have n2 : (b.map pdE).length = b.length := by simp
  generalize a.map pdE = da at *
  generalize b.map pdE = db at *
  by_cases h : a.length = b.length
  · have g1 : decide (((da.length : Nat) : Int) = ((db.length : Nat) : Int)) = true := decide_eq_true (by omega)
    rw [decide_eq_true h, Bool.true_and]
    refine pcall_of_run Tryz.func76 rfl Tryz.ntmps76 rfl (fun X => ?_)
    exact wke
  · have g1 : decide (((da.length : Nat) : Int) = ((db.length : Nat) : Int)) = false := decide_eq_false (by omega)
    rw [decide_eq_false h, Bool.false_and]
    refine pcall_of_run Tryz.func76 rfl Tryz.ntmps76 rfl (fun X => ?_)
    exact wke
theorem eqElemLists_p (a b : List EV) : PCall Tryz.prog 22 [pdP a, pdP b] (.val (.bool (eqLx eqE a b))) := by
  have c1 := specEqPaths_p a b
  unfold pdP at *
  refine pcall_of_run Tryz.func22 rfl Tryz.ntmps22 rfl (fun X => ?_)
  exact wke
def membE (s : List (List EV)) : List EV := s.filterMap fun p => match p with | [x] => some x | _ => none
theorem memb_app (s : List (List EV)) (p : List EV) : membE (s ++ [p]) = membE s ++ (match p with | [x] => [x] | _ => []) := by
  unfold membE
  rw [List.filterMap_append]
  congr 1
  match p with
  | [] => rfl
  | [x] => rfl
  | x :: y :: r => rfl
theorem memb_len (s : List (List EV)) : (membE s).length ≤ s.length := List.length_filterMap_le _ _
set_option maxHeartbeats 8000000 in
theorem members_p (s : List (List EV)) (hn : s.length ≤ 2147483647) : PCall Tryz.prog 24 [.sl 1 24 (s.map pdP)] (pdP (membE s)) := by
  have n1 : (s.map pdP).length = s.length := by simp
  have hf := fun k => memb_len (s.take k)
  refine pcall_of_run Tryz.func24 rfl Tryz.ntmps24 rfl (fun X => ?_)
  refine wk ?_
  refine run_nilOwn 3 100 29 11 168 rfl rfl ?_
  refine run_loopS (ι := { k : Nat // k ≤ s.length })
    (fun k => [(3, .own 100), (6, .dat (.sl 1 24 (s.map pdP))), (7, .dat (.val (.int .i64 (((s.map pdP).length : Nat) : Int)))), (8, .dat (.val (.int .i64 (k.1 : Nat))))])
    (fun k => [(100, .row 29 11 168 ((membE (s.take k.1)).map pdE))]) (fun k => s.length - k.1) ⟨0, Nat.zero_le _⟩ id ?_ ?_
  · exact sb
  rintro ⟨k, hk⟩
  by_cases hlt : k < s.length
  · have hc : decide ((k : Int) < (((s.map pdP).length : Nat) : Int)) = true := decide_eq_true (by omega)
    obtain ⟨p, hp⟩ : ∃ p, s[k]? = some p := ⟨_, List.getElem?_eq_getElem hlt⟩
    have hi : (s.map pdP)[((k : Nat) : Int).toNat]? = some (pdP p) := by simp [hp]
    have e := memb_app (s.take k) p
    rw [show s.take k ++ [p] = s.take (k + 1) by rw [List.take_add_one, hp]; rfl] at e
    unfold pdP at hi
    have hno : (∀ x, p ≠ [x]) → membE (s.take (k + 1)) = membE (s.take k) := fun h => by
      rw [e]
      match p, h with
      | [], _ => simp
      | [x], h => exact absurd rfl (h x)
      | x :: y :: r, _ => simp
    by_cases h1 : p.length = 1
    · obtain ⟨x, rfl⟩ := List.length_eq_one_iff.1 h1
      have g1 : decide (((([x].map pdE).length : Nat) : Int) = 1) = true := rfl
      have i0 : ([x].map pdE)[(0 : Int).toNat]? = some (pdE x) := rfl
      have hbt : (((membE (s.take k)).map pdE).length + [pdE x].length) * 168 ≤ 140737488351232 := by
        have := hf k
        simp only [List.length_map, List.length_cons, List.length_nil, List.length_take] at this ⊢
        omega
      have hbl : ((membE (s.take k)).map pdE).length + [pdE x].length ≤ 140737488351232 := by omega
      have e2 : (membE (s.take k)).map pdE ++ [pdE x] = (membE (s.take (k + 1))).map pdE := by rw [e]; simp
      generalize (membE (s.take k)).map pdE = r1 at *
      unfold pdE at i0 hbt hbl
      refine wk ?_
      refine run_again ?_
      refine ⟨⟨k + 1, by omega⟩, (fun j => if j = 100 then 20 else j), by simp only; omega, ?_⟩
      exact sb
    · have g1 : decide ((((p.map pdE).length : Nat) : Int) = 1) = false := decide_eq_false (by rw [List.length_map]; omega)
      have e2 : (membE (s.take k)).map pdE = (membE (s.take (k + 1))).map pdE := by rw [hno fun x h => h1 (by rw [h]; rfl)]
      refine wk ?_
      refine run_again ?_
      refine ⟨⟨k + 1, by omega⟩, id, by simp only; omega, ?_⟩
      exact sb
  · have hc : decide ((k : Int) < (((s.map pdP).length : Nat) : Int)) = false := decide_eq_false (by omega)
    have hkk : s.take k = s := List.take_of_length_le (by omega)
    simp only [hkk]
    refine run_frz (fun _ => false) (fun k => k == 100) ?_
    unfold pdP
    exact wke
end Go.Proofs.YtgmahieoiifpfaaGreat
end
section
set_option linter.unusedVariables false
namespace Go.Proofs.YtgmahieoiifpfaaGreat
open Go.RowKit
set_option linter.unusedSimpArgs false
/-- The specification's order and equality do not tell x from z. -/
structure LikeE (x z : EV) : Prop where
  l : ∀ y, cmpE x y = cmpE z y
  r : ∀ y, cmpE y x = cmpE y z
  el : ∀ y, eqE x y = eqE z y
  er : ∀ y, eqE y x = eqE y z
theorem LikeE.refl (x : EV) : LikeE x x := ⟨fun _ => rfl, fun _ => rfl, fun _ => rfl, fun _ => rfl⟩
/-- x is like an orderly element. -/
def OE (x : EV) : Prop := ∃ z, OPE (toPE z) ∧ LikeE x z
theorem OE.raw {x : EV} (h : OPE (toPE x)) : OE x := ⟨x, h, LikeE.refl x⟩
theorem ordEr : OrdL cmpE (fun x => OPE (toPE x)) := ⟨fun a b d ha hb hd => by
  rw [← cmpE_law ha.j hb.j, ← cmpE_law hb.j hd.j, ← cmpE_law ha.j hd.j]
  exact ordPE.1 _ _ _ ha hb hd, fun a b ha hb => by
  rw [← cmpE_law ha.j hb.j, ← cmpE_law hb.j ha.j]
  exact ordPE.2 _ _ ha hb⟩
theorem ordEV : OrdL cmpE OE := ⟨fun a b d ⟨za, ha, la⟩ ⟨zb, hb, lb⟩ ⟨zd, hd, ld⟩ => by
  rw [la.l, lb.l, la.l, lb.r, ld.r, ld.r]
  exact ordEr.1 _ _ _ ha hb hd, fun a b ⟨za, ha, la⟩ ⟨zb, hb, lb⟩ => by
  rw [la.l, lb.l, la.r, lb.r]
  exact ordEr.2 _ _ ha hb⟩
theorem eqE_OE {x y : EV} (hx : OE x) (hy : OE y) : eqE x y = true ↔ cmpE x y = 0 := by
  obtain ⟨zx, hx, lx⟩ := hx
  obtain ⟨zy, hy, ly⟩ := hy
  rw [lx.el, ly.er, lx.l, ly.r, ← eqE_law hx.j hy.j, ← cmpE_law hx.j hy.j]
  exact eqPE_iff hx hy
theorem ordPV : OrdL (cw cmpE) (PP OE) := ordW ordEV
set_option maxHeartbeats 8000000 in
theorem place_p (s : List (List EV)) (p : List EV) (hs : ∀ a ∈ s, PP OE a) (hp : PP OE p) (hsrt : Srt (cw cmpE) s) :
    PCall Tryz.prog 79 [.sl 1 24 (s.map pdP), pdP p] (.tup [.val (.int .i64 ((locL_ (cw cmpE) s p : Nat) : Int)), .val (.bool (fndL_ (cw cmpE) s p))]) := by
  refine pcall_fits fun hfit => ?_
  have b1 := (hfit (.sl 1 24 (s.map pdP)) (by simp)).sl.2.1
  clear hfit
  have n1 : (s.map pdP).length = s.length := by simp
  have ga : ∀ {z : Int} {i : Nat} {x : List EV}, z = (i : Int) → s[i]? = some x → (s.map pdP)[z.toNat]? = some (pdP x) := fun hz h => by subst hz; simp [h]
  have hlo := fun (i : Nat) (x : List EV) (h : i < locL_ (cw cmpE) s p) (hx : s[i]? = some x) => locL_lt s p i x h hx
  have hhi := fun (i : Nat) (x : List EV) (h : locL_ (cw cmpE) s p ≤ i) (hx : s[i]? = some x) => locL_ge ordPV hs hp hsrt i x h hx
  have hle := locL_le (c := cw cmpE) s p
  rw [fndL_at]
  generalize hloc : locL_ (cw cmpE) s p = loc at *
  generalize s.map pdP = da at *
  have hW := fun x => walkCompare_p x p
  unfold pdP at hW ⊢
  generalize p.map pdE = dp at *
  refine pcall_of_run Tryz.func79 rfl Tryz.ntmps79 rfl (fun X => ?_)
  refine wk ?_
  refine run_loopS (ι := { j : Nat × Nat // j.1 ≤ loc ∧ loc ≤ j.2 ∧ j.2 ≤ s.length })
    (fun j => [(0, .dat (.sl 1 24 da)), (1, .dat (.sl 11 168 dp)), (6, .dat (.val (.int .i64 (j.1.1 : Nat)))), (7, .dat (.val (.int .i64 (j.1.2 : Nat))))]) (fun _ => []) (fun j => j.1.2 - j.1.1) ⟨(0, da.length), Nat.zero_le _, by rw [n1]; exact hle, by rw [n1]; exact Nat.le_refl _⟩ id ?_ ?_
  · exact sb
  rintro ⟨⟨lo, hi⟩, h1, h2, h3⟩
  simp only at h1 h2 h3
  simp only
  by_cases hlt : lo < hi
  · have g1 : decide ((lo : Int) < (hi : Int)) = true := decide_eq_true (by omega)
    obtain ⟨d, hd⟩ : ∃ d : Nat, d = (hi - lo) / 2 := ⟨_, rfl⟩
    have w2 : ((hi : Int) - (lo : Int)) / 2 = ((d : Nat) : Int) := by omega
    obtain ⟨x, hx⟩ : ∃ x, s[lo + d]? = some x := ⟨_, List.getElem?_eq_getElem (by omega)⟩
    have i1 := ga (z := (lo : Int) + (d : Int)) (by omega) hx
    have c1 := hW x
    unfold pdP at i1
    by_cases hc : cw cmpE x p < 0
    · have g2 : decide (cw cmpE x p < 0) = true := decide_eq_true hc
      have hb : lo + d < loc := by
        refine Nat.lt_of_not_le fun hn => hhi _ x hn hx hc
      refine wk ?_
      refine k_half rfl rfl rfl w2 (by omega) (by omega) ?_
      refine wk ?_
      refine run_again ?_
      refine ⟨⟨(lo + d + 1, hi), by simp only; omega, by simp only; omega, h3⟩, id, by simp only; omega, ?_⟩
      have ez : (lo : Int) + (d : Int) + 1 = ((lo + d + 1 : Nat) : Int) := by omega
      exact sb
    · have g2 : decide (cw cmpE x p < 0) = false := decide_eq_false hc
      have hb : loc ≤ lo + d := by
        refine Nat.le_of_not_lt fun hn => hc (hlo _ x hn hx)
      refine wk ?_
      refine k_half rfl rfl rfl w2 (by omega) (by omega) ?_
      refine wk ?_
      refine run_again ?_
      refine ⟨⟨(lo, lo + d), h1, hb, by simp only; omega⟩, id, by simp only; omega, ?_⟩
      have ez : (lo : Int) + (d : Int) = ((lo + d : Nat) : Int) := by omega
      exact sb
  · have g1 : decide ((lo : Int) < (hi : Int)) = false := decide_eq_false (by omega)
    obtain rfl : lo = loc := by omega
    by_cases hin : lo < s.length
    · have g2 : decide ((lo : Int) < ((da.length : Nat) : Int)) = true := decide_eq_true (by omega)
      obtain ⟨x, hx⟩ : ∃ x, s[lo]? = some x := ⟨_, List.getElem?_eq_getElem hin⟩
      have i1 := ga (z := (lo : Int)) rfl hx
      have c1 := hW x
      unfold pdP at i1
      rw [hx]
      simp only
      exact wke
    · have g2 : decide ((lo : Int) < ((da.length : Nat) : Int)) = false := decide_eq_false (by omega)
      rw [List.getElem?_eq_none (by omega)]
      simp only
      exact wke
end Go.Proofs.YtgmahieoiifpfaaGreat
end
section
set_option linter.unusedVariables false
namespace Go.Proofs.YtgmahieoiifpfaaGreat
open Go.RowKit
set_option linter.unusedSimpArgs false
def slV (g len cap : Nat) : Value := .slice (some ⟨g, 0, none⟩) len cap
/-- The row l of the call's own, at the slice v. -/
def atR (g cap e y : Nat) (l : List PD) : Res where
  rel w F O u := u = slV g l.length cap ∧ (∃ xs, w.ownsRow 0 e 1 u l.length xs ∧ Groups w F 1 l xs ∧ l.length * y ≤ 140737488351232 ∧ l.length ≤ 140737488351232) ∧ ∀ b, O b ↔ b = g
  d := .sl 1 y l
  one := by rintro w F O v ⟨rfl, _⟩; rfl
  keep := by
    rintro w w' F F' O v h hs hO ⟨rfl, ⟨xs, h1, h2, h3, h4⟩, h5⟩
    refine ⟨rfl, ⟨xs, ⟨h1.1, h1.2.imp id ?_⟩, h2.keep h hs, h3, h4⟩, h5⟩
    rintro ⟨g', cap', cur, e1, e2, e3, r⟩
    refine ⟨g', cap', cur, e1, e2, (hO g' ((h5 g').2 ?_)).trans e3, r⟩
    unfold slV at e1
    injection e1 with e1 _ _
    injection e1 with e1
    injection e1 with e1
    exact e1.symm
  frz := by
    rintro w F O F' v hs hO ⟨rfl, ⟨xs, h1, h2, h3, h4⟩, h5⟩
    unfold Rep
    rcases h1.2 with ⟨e1, e2⟩ | ⟨g', cap', cur, e1, hB, hg, hc1, _, hc2, hc3⟩
    · cases e1
    · have e1' := e1
      unfold slV at e1'
      injection e1' with e2 _ e3
      injection e2 with e2
      injection e2 with e2
      subst e2
      refine ⟨some ⟨g, 0, none⟩, cap, rfl, by omega, h3, h4, .inr ⟨g, 0, hO g ((h5 g).2 rfl), rfl, ?_⟩⟩
      refine (h2.keep (fun _ _ => rfl) hs).lies fun j u hj => ?_
      rw [cell_of_row w g (0 + j) _ _ _ hg]
      rw [← hc3, List.getElem?_take] at hj
      split at hj
      · simpa using hj
      · cases hj
section
variable {P : Program} {X : Base} {N : Nat} {Q : Exit → Act → World → Prop} {opa : Array Oper} {rem : List Nat} {ks : List Itm} {ops : List Oper} {s s' : Sta} {a : Act} {w w' : World} {ρ : Nat → RV}
/-- A row's address is looked at. -/
theorem run_openRow {k t d e y : Nat} {l : List PD} (hk : s.tb k = some (.row e 1 y l)) (ht : s.tm t = .own k) (hd : s.tb d = none) (hd1 : d < 1000) (hl : 0 < l.length)
    (h : ∀ g cap, Run P X N Q ks { tm := upd s.tm t (.own d), tb := upd (upd s.tb k (some .dead)) d (some (.res (atR g cap e y l))) }) : Run P X N Q ks s := ⟨fun hN a w hc => by
  obtain ⟨ρ, hc⟩ := hc
  obtain ⟨xs, q0, qm, q1, q2, q3, q4⟩ := hc.blks k _ hk
  obtain ⟨g, cap, hv⟩ : ∃ g cap, (ρ k).v = slV g l.length cap := by
    rcases q1.2 with ⟨e1, e2⟩ | ⟨g', cap', cur, e1, _⟩
    · omega
    · exact ⟨g', cap', e1⟩
  have hne : k ≠ d := fun h => by rw [h, hd] at hk; cases hk
  have hj := hc.join (js := [k]) (d := d) (R := atR g cap e y l) (v := (ρ k).v) (O := (ρ k).fp) (w' := w) (fun j hj => by
      rw [List.mem_singleton] at hj; subst hj; rw [hk]; rfl) (.inl ⟨hd, hd1⟩) (fun j hj t cs hcs => by
      rw [List.mem_singleton] at hj; subst hj; rw [hk] at hcs; cases hcs) rfl rfl rfl (Nat.le_refl _) (fun _ _ _ => rfl) (fun b hb => .inr ⟨k, by simp, hb⟩) (fun F' hF' => ⟨hv, ⟨xs, ⟨q1.1, q1.2.imp id (by
        rintro ⟨g', cap', cur, e1, e2, r⟩
        exact ⟨g', cap', cur, e1, Nat.zero_le _, r⟩)⟩, q2.keep (fun _ _ => rfl) hF', q3, q4⟩, fun b => by
          rw [q0, hv]
          show (some g = some b) ↔ b = g
          constructor
          · intro h; exact (Option.some.inj h).symm
          · intro h; rw [h]⟩)
  have e : joinT [k] d (atR g cap e y l) s.tb = upd (upd s.tb k (some .dead)) d (some (.res (atR g cap e y l))) := by
    funext j
    unfold joinT upd
    by_cases h1 : j = d
    · rw [if_pos h1, if_pos h1]
    · rw [if_neg h1, if_neg h1]
      by_cases h2 : j = k
      · rw [if_pos h2, if_pos (by simp [h2])]
      · rw [if_neg h2, if_neg (by simp [h2])]
  rw [e] at hj
  have ht1 := hc.tmps t
  rw [ht] at ht1
  have ht2 := VR_own ht1 hk
  refine (h g cap).out hN a w ⟨_, hj.see (t := t) (x := .own d) ?_⟩
  unfold VR
  refine ⟨by rw [ht2, hv]; rfl, .inl ⟨_, upd_same _ _ _, .inr rfl, ?_⟩⟩
  rw [upd_same]
  exact ht2⟩
/-- It is a row again. -/
theorem conc_closeRow {k g cap e y : Nat} {l : List PD} (hk : s.tb k = some (.res (atR g cap e y l))) (h : Conc X s a w) : Conc X (s.set k (.row e 1 y l)) a w := by
  obtain ⟨ρ, hc⟩ := h
  obtain ⟨⟨e1, ⟨xs, q1, q2, q3, q4⟩, q5⟩, q6⟩ := hc.blks k _ hk
  have hs := hc.split (X' := X) hk (js := [k]) (nb := fun _ => some (.row e 1 y l)) (nr := fun _ => RV.of (ρ k).v) (fun j hj hne => absurd (List.mem_singleton.1 hj) hne) (by simp) (fun _ _ _ _ => rfl) rfl ⟨rfl, _, rfl, .inr rfl⟩ (fun j hj hl b hb => by
      rw [e1] at hb
      have hb : some g = some b := hb
      exact (q5 b).2 (Option.some.inj hb).symm) (fun j1 h1 j2 h2 b _ _ _ _ => (List.mem_singleton.1 h1).trans (List.mem_singleton.1 h2).symm) (fun j hj h1 h2 => by
      rw [List.mem_singleton] at hj; subst hj
      exact hc.lent j h1 (by rw [hk]; rfl)) (fun hF j hj x hx => by
      rw [List.mem_singleton] at hj; subst hj
      cases hx
      have ev : splitR [j] (fun _ => RV.of (ρ j).v) ρ j = RV.of (ρ j).v := by unfold splitR; rw [if_pos (by simp)]
      refine ⟨xs, by rw [ev]; rfl, fun b hb => ?_, ?_, q2.keep (fun _ _ => rfl) hF, q3, q4⟩
      · rw [ev, e1] at hb
        have hb : some g = some b := hb
        exact (q6 b ((q5 b).2 (Option.some.inj hb).symm)).1
      · rw [ev]
        refine ⟨q1.1, q1.2.imp id ?_⟩
        rintro ⟨g', cap', cur, f1, _, r⟩
        refine ⟨g', cap', cur, f1, ?_, r⟩
        rw [e1] at f1
        unfold slV at f1
        injection f1 with f2 _ _
        injection f2 with f2
        injection f2 with f2
        exact f2 ▸ Base.mayB (q6 g ((q5 g).2 rfl)).1)
  have et : splitT [k] (fun _ => some (.row e 1 y l)) s.tb = upd s.tb k (some (.row e 1 y l)) := by
    funext j
    unfold splitT upd
    by_cases h2 : j = k
    · rw [if_pos h2, if_pos (by simp [h2])]
    · rw [if_neg h2, if_neg (by simp [h2])]
  rw [et] at hs
  exact ⟨_, hs⟩
theorem k_closeRow {d : Option Tmp} {op : Op} {k g cap e y : Nat} {l : List PD} (hk : s.tb k = some (.res (atR g cap e y l))) (h : RunK P X N Q opa rem ks d op (s.set k (.row e 1 y l))) : RunK P X N Q opa rem ks d op s := ⟨fun ty pos aft => ⟨fun hX a w hc => (h.out ty pos aft).out hX a w (conc_closeRow hk hc)⟩⟩
theorem op_sliceR {o : Oper} (hd : dstOk X.N o.dst = true) {t : TypeId} {x lo : Operand} (ho : o.op = .slice t x (some lo) none none) {k g cap e y e' y' p : Nat} {l : List PD} (hx : s.ev x = .own k) (hk : s.tb k = some (.res (atR g cap e y l))) (ht : slcI P t = some (e', 1, y')) (hlo : s.ev lo = .dat (.val (.int .i64 (p : Int)))) (hp : p ≤ l.length) :
    OpS P X o s (s.put o.dst (.dat (.val (.slice (some ⟨g, if cap = p then 0 else p, none⟩) (l.length - p) (cap - p))))) := by
  refine opS_value hd fun a w ρ hc => ?_
  have h2 := hc.ev x
  rw [hx] at h2
  have h3 := VR_ownR h2 hk rfl
  obtain ⟨⟨e1, ⟨xs, q1, _⟩, _⟩, _⟩ := hc.blks k _ hk
  rw [e1] at h3
  have hcap : l.length ≤ cap := by
    rw [e1] at q1
    rcases q1.2 with ⟨f1, _⟩ | ⟨g', cap', cur, f1, _, _, f2, _⟩
    · cases f1
    · unfold slV at f1
      injection f1 with _ _ f3
      omega
  obtain ⟨inf, hu, hi1, hs1, hb1⟩ := slcI_spec ht
  have hl := hc.ev lo
  rw [hlo] at hl
  unfold VR Rep at hl
  refine ⟨.slice (some ⟨g, if cap = p then 0 else p, none⟩) (l.length - p) (cap - p), ?_, by unfold VR Rep; exact ⟨rfl, trivial⟩⟩
  have hb : (Instr.sliceBounds true l.length cap (some (a.eval lo)) none none).run P w = .ok (p, l.length, cap) w := by
    have := run_bound (P := P) (w := w) (k := .i64) hp .sliceB
    simp [Instr.sliceBounds, hl.1, this]
  have hr : (Instr.sliceAt t (a.eval x) (some (a.eval lo)) none none).run P w = .ok (.slice (some ⟨g, if cap = p then 0 else p, none⟩) (l.length - p) (cap - p)) w := by
    rw [h3]
    unfold slV
    simp only [Instr.sliceAt, Sem.run_bind, run_underlying hu, Result.andThen_ok, Instr.slice, hb, sizeOf, typeInfo, run_program, hi1, Sem.run_pure, hs1]
    by_cases hcp : cap = p
    · rw [if_pos hcp, if_pos hcp]
    · rw [if_neg hcp, if_neg hcp]
      simp [Addr_add]
  simp [execOp, ho, hr]
theorem d_sliceR {d : Nat} {t : Nat} {x lo : Operand} {k g cap e y e' y' p : Nat} {l : List PD} (hN : Nat.blt d N = true) (hx : s.ev x = .own k) (hk : s.tb k = some (.res (atR g cap e y l))) [ht : SI P t e' 1 y'] (hlo : s.ev lo = .dat (.val (.int .i64 (p : Int)))) (hp : p ≤ l.length) :
    TrK P X N ops (some d) (.slice t x (some lo) none none) (Eff.put (some d) (.dat (.val (.slice (some ⟨g, if cap = p then 0 else p, none⟩) (l.length - p) (cap - p))))) s (s.put (some d) (.dat (.val (.slice (some ⟨g, if cap = p then 0 else p, none⟩) (l.length - p) (cap - p))))) :=
  act_val hN fun s' _ _ _ _ hd hev htb => op_sliceR hd rfl ((hev _ (by simp [Op.operands])).trans hx) ((htb x (by simp [Op.operands]) k (by rw [hx]; simp [keysA])).trans hk) ht.out ((hev _ (by simp [Op.operands])).trans hlo) hp
theorem d_sliceZR {d : Nat} {t : Nat} {x lo : Operand} {k g cap e y e' y' p : Nat} {z : Int} {l : List PD} (hN : Nat.blt d N = true) (hx : s.ev x = .own k) (hk : s.tb k = some (.res (atR g cap e y l))) [ht : SI P t e' 1 y'] (hlo : s.ev lo = .dat (.val (.int .i64 z))) (hz : z = (p : Int)) (hp : p ≤ l.length) :
    TrK P X N ops (some d) (.slice t x (some lo) none none) (Eff.put (some d) (.dat (.val (.slice (some ⟨g, if cap = p then 0 else p, none⟩) (l.length - p) (cap - p))))) s (s.put (some d) (.dat (.val (.slice (some ⟨g, if cap = p then 0 else p, none⟩) (l.length - p) (cap - p))))) := by
  subst hz
  exact d_sliceR hN hx hk hlo hp
def shiftL (l : List PD) (i : Nat) : List PD := l.take (i + 1) ++ (l.drop i).take (l.length - (i + 1))
theorem op_copyR {o : Oper} {d : Nat} (hd : o.dst = some d) (hN : d < X.N) {t e' y' : Nat} {x z : Operand} (ho : o.op = .call { callee := .builtin .copy, args := #[x, z], argTypes := #[t, t] }) (ht : slcI P t = some (e', 1, y')) {k g cap e y i : Nat} {l : List PD} (hk : s.tb k = some (.res (atR g cap e y l))) (hi : i < l.length)
    (hx : s.ev x = .dat (.val (.slice (some ⟨g, if cap = i + 1 then 0 else i + 1, none⟩) (l.length - (i + 1)) (cap - (i + 1))))) (hz : s.ev z = .dat (.val (.slice (some ⟨g, if cap = i then 0 else i, none⟩) (l.length - i) (cap - i)))) :
    OpS P X o s ((s.set k (.res (atR g cap e y (shiftL l i)))).put (some d) (.dat (.val (.int .i64 ((l.length - (i + 1) : Nat) : Int))))) := by
  intro a w ⟨ρ, hc⟩ K Q hK
  have h1 := hc.ev x
  rw [hx] at h1
  unfold VR Rep at h1
  have h2 := hc.ev z
  rw [hz] at h2
  unfold VR Rep at h2
  obtain ⟨⟨e1, ⟨xs, q1, q2, q3, q4⟩, q5⟩, q6⟩ := hc.blks k _ hk
  obtain ⟨inf, hu, hi1, hs1, hb1⟩ := slcI_spec ht
  have hlen : (shiftL l i).length = l.length := by unfold shiftL; simp; omega
  have q1' := q1
  rw [e1] at q1'
  obtain ⟨cur, hg, hc1, hc4, hc2, hc3⟩ : ∃ cur, w.heap[g]? = some (.cells cur e (0, 0)) ∧ l.length ≤ cap ∧ cap ≤ maxLen ∧ cur.size = cap * 1 ∧ cur.toList.take (l.length * 1) = xs := by
    rcases q1'.2 with ⟨f1, _⟩ | ⟨g', cap', cur, f1, _, f2, f3, f4, f5, f6⟩
    · cases f1
    · unfold slV at f1
      injection f1 with f7 _ f8
      injection f7 with f7
      injection f7 with f7
      subst f7 f8
      exact ⟨cur, f2, f3, f4, f5, f6⟩
  rw [Nat.mul_one] at hc2 hc3
  have hxl : xs.length = l.length := by have := q1.1; omega
  have hic : cap ≠ i := by omega
  rw [if_neg hic] at h2
  obtain ⟨cs, hcs⟩ : ∃ cs, cs = (xs.drop i).take (l.length - (i + 1)) := ⟨_, rfl⟩
  have hcsl : cs.length = l.length - (i + 1) := by rw [hcs]; simp; omega
  have hmin : Nat.min (l.length - i) (l.length - (i + 1)) = l.length - (i + 1) := by simp only [Nat.min_def]; split <;> omega
  obtain ⟨o1, ho1⟩ : ∃ o1, o1 = if cap = i + 1 then 0 else i + 1 := ⟨_, rfl⟩
  rw [← ho1] at h1
  have hfit : o1 + cs.length ≤ cur.size := by rw [ho1, hcsl]; split <;> omega
  have hrun := run_copy_rowN (P := P) (w := w) t t o.type e' 1 g o1 (l.length - (i + 1)) (cap - (i + 1)) ⟨g, i, none⟩ (l.length - i) (cap - i) cur e cs hu (by rw [hi1]; simp [hs1]) hg (by rw [hmin, Nat.mul_one]; exact hcsl) (fun j v hj => by
    rw [Addr_add, cell_of_row w g (i + j) _ _ _ hg]
    rw [hcs, List.getElem?_take] at hj
    split at hj
    · rw [List.getElem?_drop, ← hc3, List.getElem?_take] at hj
      split at hj
      · simpa using hj
      · cases hj
    · cases hj) hfit (fun v hv => q2.one v (List.mem_of_mem_drop (List.mem_of_mem_take (hcs ▸ hv))))
  rw [hmin] at hrun
  obtain ⟨cur2, hcur2⟩ : ∃ c : Array Value, c = (cur.toList.take o1 ++ cs ++ cur.toList.drop (o1 + cs.length)).toArray := ⟨_, rfl⟩
  rw [← hcur2] at hrun
  have hsz2 : cur2.size = cur.size := by rw [hcur2]; simp; omega
  have hrow : cur2.toList.take l.length = xs.take (i + 1) ++ cs := by
    rw [hcur2]
    by_cases hl : i + 1 = l.length
    · have : cs = [] := List.eq_nil_of_length_eq_zero (by omega)
      rw [this]
      simp only [List.append_nil, List.length_nil, Nat.add_zero, List.take_append_drop]
      rw [hc3, List.take_of_length_le (by omega)]
    · have ho1' : o1 = i + 1 := by rw [ho1, if_neg (by omega)]
      have ht1 : (cur.toList.take (i + 1)).length = i + 1 := by rw [List.length_take, Array.length_toList]; omega
      rw [ho1', ← hc3, List.take_take, show min (i + 1) l.length = i + 1 by omega, List.take_append_of_le_length (by rw [List.length_append, ht1, hcsl]; omega), List.take_of_length_le (by rw [List.length_append, ht1, hcsl]; omega)]
  have hfp : (ρ k).fp g := (q5 g).2 rfl
  have hoth : ∀ b', ¬ (ρ k).fp b' → (w.setRow g cur2).heap[b']? = w.heap[b']? := fun b' hb' => setRow_other w g b' _ (fun e => hb' (e ▸ hfp))
  have hsz : (w.setRow g cur2).heap.size = w.heap.size := by simp
  have hF : ∀ b', FF X w s.tb ρ b' → (w.setRow g cur2).heap[b']? = w.heap[b']? := fun b' h => hoth b' (h.2.2 k (by rw [hk]; rfl))
  have hB0 : Below 0 w (w.setRow g cur2) := ⟨rfl, rfl, rfl, by rw [hsz]; exact Nat.le_refl _, fun k hk => absurd hk (Nat.not_lt_zero _)⟩
  have hset := hc.setRes (R' := atR g cap e y (shiftL l i)) hk hB0 hsz hoth ⟨by rw [hlen]; exact e1, ⟨xs.take (i + 1) ++ cs, by
      rw [e1, hlen]
      refine ⟨by simp; omega, .inr ⟨g, cap, cur2, rfl, Nat.zero_le _, setRow_heap w g _ _ e _ hg, hc1, hc4, by rw [hsz2, hc2, Nat.mul_one], by rw [Nat.mul_one]; exact hrow⟩⟩, by
      have g1 := (q2.split (i + 1) (by omega)).1
      have g2 := ((q2.split i (by omega)).2.split (l.length - (i + 1)) (by simp; omega)).1
      rw [Nat.mul_one] at g1 g2
      rw [Nat.mul_one] at g2
      rw [← hcs] at g2
      exact (g1.append g2).keep hF (fun _ h => h), by rw [hlen]; exact q3, by rw [hlen]; exact q4⟩, q5⟩
  refine wp_value (v := .int .i64 ((l.length - (i + 1) : Nat) : Int)) (w' := w.setRow g cur2) ?_ ?_
  · simp only [execOp, ho, resolve, invoke, builtin, Sem.run_bind, Sem.run_pure, Result.andThen_ok, List.map_toArray, List.map_cons, List.map_nil, h1.1, h2.1, hrun]
    rfl
  · rw [hd]
    refine hK _ _ ⟨ρ, hset.put hN ?_⟩
    unfold VR Rep
    exact ⟨rfl, wf_small (by omega)⟩
def Eff.cp (k d : Nat) (b : Blk) (v : AV) : Eff := { dead := none, blk := some (k, b), tmp := some (d, v) }
theorem d_copyR {d t e' y' : Nat} {x z : Operand} (hN : Nat.blt d N = true) [ht : SI P t e' 1 y'] {k g cap e y i : Nat} {l : List PD} (hk : s.tb k = some (.res (atR g cap e y l))) (hi : i < l.length)
    (hx : s.ev x = .dat (.val (.slice (some ⟨g, if cap = i + 1 then 0 else i + 1, none⟩) (l.length - (i + 1)) (cap - (i + 1))))) (hz : s.ev z = .dat (.val (.slice (some ⟨g, if cap = i then 0 else i, none⟩) (l.length - i) (cap - i)))) :
    TrK P X N ops (some d) (.call { callee := .builtin .copy, args := #[x, z], argTypes := #[t, t] }) (Eff.cp k d (.res (atR g cap e y (shiftL l i))) (.dat (.val (.int .i64 ((l.length - (i + 1) : Nat) : Int))))) s
      ((s.set k (.res (atR g cap e y (shiftL l i)))).put (some d) (.dat (.val (.int .i64 ((l.length - (i + 1) : Nat) : Int))))) :=
  ⟨fun hX ty pos aft gd s' hA => op_copyR (s := s') rfl (by rw [hX.1]; exact Nat.blt_eq.mp hN) rfl ht.out ((new_alike hA rfl).trans hk) hi ((ev_alike hA (by simp [Op.operands, Call.operands])).trans hx) ((ev_alike hA (by simp [Op.operands, Call.operands])).trans hz), rfl⟩
theorem groups_setD {F : Nat → Prop} {d' : PD} {c : Value} (hd' : Rep w F d' c) (hc : c.oneCell' = true) : ∀ {l : List PD} {xs : List Value} {i : Nat}, Groups w F 1 l xs → Groups w F 1 (l.set i d') (xs.set i c)
  | [], xs, i, hg => by cases hg; exact rfl
  | d :: r, xs, i, hg => by
    obtain ⟨u, ys, rfl, hd, hn, h1, hr⟩ := hg
    obtain ⟨v, hv⟩ := List.length_eq_one_iff.1 hn
    cases i with
    | zero =>
      rw [hv]
      simp only [List.cons_append, List.nil_append, List.set_cons_zero]
      refine ⟨c, ys, by rw [one_toList hc]; rfl, hd', by rw [one_toList hc]; rfl, fun x hx => ?_, hr⟩
      rw [one_toList hc, List.mem_singleton] at hx
      rw [hx]; exact hc
    | succ i =>
      rw [hv]
      simp only [List.cons_append, List.nil_append, List.set_cons_succ]
      exact ⟨u, ys.set i c, by rw [hv]; rfl, hd, hn, h1, groups_setD hd' hc hr⟩
theorem op_storeE1 {o : Oper} (hd : o.dst = none) {t : TypeId} {x y : Operand} (ho : o.op = .store t x y) {k e z i : Nat} {l : List PD} {d' : PD} (hx : s.ev x = .elt k 1 i 0) (hk : s.tb k = some (.row e 1 z l)) (ht : varI P t = some (1, false)) (hl : i < l.length) (hy : s.ev y = .dat d') (h1d : One1 d') :
    OpS P X o s (s.set k (.row e 1 z (l.set i d'))) := by
  intro a w ⟨ρ, hc⟩ K Q hK
  have h2 := hc.ev x
  rw [hx] at h2
  unfold VR at h2
  obtain ⟨_, h2⟩ := h2
  have h4 := hc.ev y
  rw [hy] at h4
  unfold VR at h4
  have hone := h1d _ _ _ h4
  obtain ⟨xs, e0, hm, how, hgr, hby, hln⟩ := hc.blks k _ hk
  rcases h2 with ⟨x', h5, h6, g, len, c, e3, e4⟩ | h5
  rotate_left
  · rw [hk] at h5; cases h5
  rcases how.2 with ⟨e5, _⟩ | ⟨g', cap, cur, e1, hB, hg, hc1, hc4, hc2, hc3⟩
  · rw [e3] at e5; cases e5
  have e1' := e1
  rw [e3] at e1
  injection e1 with e1 _ _
  injection e1 with e1
  injection e1 with e1
  subst e1
  have e4 : a.eval x = .pointer (some ⟨g, i, none⟩) := by rw [e4]; simp
  have hlen : i < cur.size := by omega
  have hrun := run_storeVar_at (P := P) (w := w) ht (b := g) (off := i) (old := cur.toList) (e := e) (by simpa using hg) (v := a.eval y) (by rw [one_toList hone]; rfl) (by simp; omega) (by rw [one_toList hone]; intro c hc; simp at hc; subst hc; exact hone)
  rw [one_toList hone] at hrun
  have hcur : (cur.toList.take i ++ [a.eval y] ++ cur.toList.drop (i + 1)) = cur.toList.set i (a.eval y) := by
    rw [List.set_eq_take_append_cons_drop, if_pos (by simp; omega)]; simp
  rw [hcur] at hrun
  have hfp : (ρ k).fp g := by rw [e0, e1']; rfl
  have hoth : ∀ b', ¬ (ρ k).fp b' → (w.setRow g (cur.toList.set i (a.eval y)).toArray).heap[b']? = w.heap[b']? := fun b' hb' => setRow_other w g b' _ (fun e => hb' (e ▸ hfp))
  have hsz : (w.setRow g (cur.toList.set i (a.eval y)).toArray).heap.size = w.heap.size := by simp
  refine wp_skipped (w' := w.setRow g (cur.toList.set i (a.eval y)).toArray) (by simp [execOp, ho, e4, Instr.storeAt, Instr.sureAddr, hrun, Result.andThen]) ?_
  rw [hd]
  have hB0 : Below 0 w (w.setRow g (cur.toList.set i (a.eval y)).toArray) := ⟨rfl, rfl, rfl, by rw [hsz]; exact Nat.le_refl _, fun k hk => absurd hk (Nat.not_lt_zero _)⟩
  refine hK _ _ ⟨ρ, (hc.setK (x' := .row e 1 z (l.set i d')) hk rfl rfl hB0 hsz hoth (fun hs hF => ?_)).put_none .any undef⟩
  refine ⟨xs.set i (a.eval y), e0, hm, ?_, groups_setD (h4.keep hF hs _) hone (hgr.keep hF hs), by simpa using hby, by simpa using hln⟩
  rw [e1']
  refine ⟨by simpa using how.1, .inr ⟨g, cap, (cur.toList.set i (a.eval y)).toArray, by simp, hB, setRow_heap w g _ _ e _ (by simpa using hg), by simpa using hc1, hc4, by simpa using hc2, ?_⟩⟩
  simp only [List.length_set]
  rw [List.take_set, hc3]
theorem k_storeE1 {t : TypeId} {x y : Operand} {k e z i : Nat} {l : List PD} {d' : PD} (hx : s.ev x = .elt k 1 i 0) (hk : s.tb k = some (.row e 1 z l)) [ht : VI P t 1 false] (hl : i < l.length) (hy : s.ev y = .dat d') (h1d : One1 d') (h : Run P X N Q (.ops opa rem :: ks) (s.set k (.row e 1 z (l.set i d')))) :
    RunK P X N Q opa rem ks none (.store t x y) s := k_eff (fun _ _ _ => op_storeE1 rfl rfl hx hk ht.out hl hy h1d) h
end
end Go.Proofs.YtgmahieoiifpfaaGreat
end
section
set_option linter.unusedVariables false
namespace Go.Proofs.YtgmahieoiifpfaaGreat
open Go.RowKit
set_option linter.unusedSimpArgs false
def insC (s : List (List EV)) (p : List EV) : List (List EV) := if p = [] then s else if fndL_ (cw cmpE) s p then s else s.take (locL_ (cw cmpE) s p) ++ p.map cleanE :: s.drop (locL_ (cw cmpE) s p)
def setOf (ps : List (List EV)) : List (List EV) := ps.foldl insC []
theorem setOf_app (ps : List (List EV)) (p : List EV) : setOf (ps ++ [p]) = insC (setOf ps) p := by
  unfold setOf
  rw [List.foldl_append]
  rfl
/-- What SetOf keeps. -/
structure SetOk (s : List (List EV)) : Prop where
  P : ∀ a ∈ s, PP OE a
  S : Srt (cw cmpE) s
theorem one_sl (n y : Nat) (l : List PD) : One1 (.sl n y l) := fun w F c h => by
  unfold Rep at h
  obtain ⟨a, c', e, _⟩ := h
  rw [e]; rfl
theorem shift_set {l : List PD} {i : Nat} {z d : PD} (hi : i ≤ l.length) : (shiftL (l ++ [z]) i).set i d = l.take i ++ d :: l.drop i := by
  unfold shiftL
  have e1 : (l ++ [z]).length = l.length + 1 := by simp
  rw [e1, show l.length + 1 - (i + 1) = l.length - i by omega]
  have e2 : ((l ++ [z]).drop i).take (l.length - i) = l.drop i := by
    rw [List.drop_append_of_le_length hi, List.take_append_of_le_length (by simp), List.take_of_length_le (by simp)]
  rw [e2]
  obtain ⟨x, hx⟩ : ∃ x, (l ++ [z])[i]? = some x := ⟨_, List.getElem?_eq_getElem (by simp; omega)⟩
  have e3 : (l ++ [z]).take (i + 1) = l.take i ++ [x] := by
    rw [List.take_add_one, hx, List.take_append_of_le_length hi]; rfl
  rw [e3, List.append_assoc, List.set_append_right _ _ (by simp; omega)]
  have : (l.take i).length = i := by simp; omega
  rw [this, Nat.sub_self]
  rfl
theorem insC_len (s : List (List EV)) (p : List EV) : (insC s p).length ≤ s.length + 1 := by
  unfold insC
  split
  · omega
  · split
    · omega
    · simp; omega
theorem setOf_len (ps : List (List EV)) : ∀ k, (setOf (ps.take k)).length ≤ k := by
  intro k
  induction k with
  | zero => simp [setOf]
  | succ k ih =>
    by_cases hk : k < ps.length
    · rw [List.take_add_one, List.getElem?_eq_getElem hk]
      simp only [Option.toList_some]
      rw [setOf_app]
      have := insC_len (setOf (ps.take k)) ps[k]
      omega
    · rw [List.take_of_length_le (by omega)] at ih ⊢
      omega
set_option maxHeartbeats 16000000 in
theorem setOf_p (ps : List (List EV)) (hn : ps.length ≤ 2147483647) (hO : ∀ p ∈ ps, ∀ x ∈ p, OE x) (hok : ∀ k, SetOk (setOf (ps.take k))) : PCall Tryz.prog 25 [.sl 1 24 (ps.map pdP)] (.sl 1 24 ((setOf ps).map pdP)) := by
  have n1 : (ps.map pdP).length = ps.length := by simp
  refine pcall_of_run Tryz.func25 rfl Tryz.ntmps25 rfl (fun X => ?_)
  refine wk ?_
  refine run_nilOwn 3 100 22 1 24 rfl rfl ?_
  refine run_loopS (ι := { k : Nat // k ≤ ps.length })
    (fun k => [(3, .own 100), (8, .dat (.sl 1 24 (ps.map pdP))), (9, .dat (.val (.int .i64 (((ps.map pdP).length : Nat) : Int)))), (10, .dat (.val (.int .i64 (k.1 : Nat))))])
    (fun k => [(100, .row 22 1 24 ((setOf (ps.take k.1)).map pdP))]) (fun k => ps.length - k.1) ⟨0, Nat.zero_le _⟩ id ?_ ?_
  · exact sb
  rintro ⟨k, hk⟩
  by_cases hlt : k < ps.length
  · have hc : decide ((k : Int) < (((ps.map pdP).length : Nat) : Int)) = true := decide_eq_true (by omega)
    obtain ⟨p, hp⟩ : ∃ p, ps[k]? = some p := ⟨_, List.getElem?_eq_getElem hlt⟩
    have hi : (ps.map pdP)[((k : Nat) : Int).toNat]? = some (.sl 11 168 (p.map pdE)) := by rw [show PD.sl 11 168 (p.map pdE) = pdP p from rfl]; simp [hp]
    have hstep : setOf (ps.take (k + 1)) = insC (setOf (ps.take k)) p := by
      rw [List.take_add_one, hp]
      exact setOf_app _ _
    have hkl := setOf_len ps k
    have hsok := hok k
    have hpm := List.mem_of_getElem? hp
    by_cases h0 : p = []
    · subst h0
      have g1 : decide ((((([] : List EV).map pdE).length : Nat) : Int) = 0) = true := rfl
      have e : (setOf (ps.take k)).map pdP = (setOf (ps.take (k + 1))).map pdP := by rw [hstep]; unfold insC; rw [if_pos rfl]
      refine wk ?_
      refine run_again ?_
      refine ⟨⟨k + 1, by omega⟩, id, by simp only; omega, ?_⟩
      exact sb
    have g1 : decide ((((p.map pdE).length : Nat) : Int) = 0) = false := decide_eq_false (by
      have : p.length ≠ 0 := fun h => h0 (List.eq_nil_of_length_eq_zero h)
      rw [List.length_map]; omega)
    have c1 : PCall Tryz.prog 79 [.sl 1 24 ((setOf (ps.take k)).map pdP), .sl 11 168 (p.map pdE)] (.tup [.val (.int .i64 ((locL_ (cw cmpE) (setOf (ps.take k)) p : Nat) : Int)), .val (.bool (fndL_ (cw cmpE) (setOf (ps.take k)) p))]) := place_p (setOf (ps.take k)) p hsok.P ⟨h0, fun x hx => hO p hpm x hx⟩ hsok.S
    have c2 : PCall Tryz.prog 80 [.sl 11 168 (p.map pdE)] (.sl 11 168 ((p.map cleanE).map pdE)) := cleanPath_p p
    have hle := locL_le (c := cw cmpE) (setOf (ps.take k)) p
    have e2 : insC (setOf (ps.take k)) p = if fndL_ (cw cmpE) (setOf (ps.take k)) p then setOf (ps.take k) else (setOf (ps.take k)).take (locL_ (cw cmpE) (setOf (ps.take k)) p) ++ p.map cleanE :: (setOf (ps.take k)).drop (locL_ (cw cmpE) (setOf (ps.take k)) p) := by
      conv => lhs; unfold insC
      rw [if_neg h0]
    rw [← hstep] at e2
    cases hf : fndL_ (cw cmpE) (setOf (ps.take k)) p with
    | true =>
      rw [hf] at c1 e2
      rw [if_pos rfl] at e2
      have e : (setOf (ps.take k)).map pdP = (setOf (ps.take (k + 1))).map pdP := by rw [e2]
      refine wk ?_
      refine k_callZ gV rfl (by kernel_rfl) rfl c1 Flat.tup2 ?_
      refine wk ?_
      refine run_again ?_
      refine ⟨⟨k + 1, by omega⟩, id, by simp only; omega, ?_⟩
      exact sb
    | false =>
      rw [hf] at c1 e2
      rw [if_neg (by simp)] at e2
      generalize locL_ (cw cmpE) (setOf (ps.take k)) p = loc at *
      have e : ((setOf (ps.take k)).map pdP).take loc ++ .sl 11 168 ((p.map cleanE).map pdE) :: ((setOf (ps.take k)).map pdP).drop loc = (setOf (ps.take (k + 1))).map pdP := by
        rw [e2, List.map_append, List.map_cons, List.map_take, List.map_drop]; rfl
      have hll : ((setOf (ps.take k)).map pdP).length = (setOf (ps.take k)).length := by simp
      clear e2 hstep hsok hok hO hf h0 hpm
      generalize (setOf (ps.take k)).map pdP = r1 at *
      have hbt : (r1.length + [PD.val (.slice none 0 0)].length) * 24 ≤ 140737488351232 := by simp only [List.length_cons, List.length_nil]; omega
      have hbl : r1.length + [PD.val (.slice none 0 0)].length ≤ 140737488351232 := by omega
      have hss := shift_set (l := r1) (i := loc) (z := .val (.slice none 0 0)) (d := .sl 11 168 ((p.map cleanE).map pdE)) (by omega)
      rw [e] at hss
      have h3 : 0 < (r1 ++ [PD.val (.slice none 0 0)]).length := by simp
      have h4 : (r1 ++ [PD.val (.slice none 0 0)]).length = r1.length + 1 := by simp
      have h5 : loc + 1 ≤ (r1 ++ [PD.val (.slice none 0 0)]).length := by omega
      have h6 : loc ≤ (r1 ++ [PD.val (.slice none 0 0)]).length := by omega
      have h7 : loc < (r1 ++ [PD.val (.slice none 0 0)]).length := by omega
      have i2 : loc < (shiftL (r1 ++ [PD.val (.slice none 0 0)]) loc).length := by unfold shiftL; simp; omega
      refine wk ?_
      refine k_callZ gV rfl (by kernel_rfl) rfl c1 Flat.tup2 ?_
      have nd : NoDraw := ⟨trivial⟩
      refine wk ?_
      clear nd
      refine run_openRow (k := 26) (t := 3) (d := 200) rfl rfl rfl (by decide) h3 fun g cap => ?_
      refine wk ?_
      refine x_of (d_sliceZR (p := loc + 1) rfl rfl rfl rfl (by omega) h5) ?_
      refine wk ?_
      refine x_of (d_sliceR (p := loc) rfl rfl rfl rfl h6) ?_
      refine wk ?_
      refine x_of (d_copyR (k := 200) (i := loc) rfl rfl h7 rfl rfl) ?_
      refine wk ?_
      refine k_closeRow (k := 200) rfl ?_
      refine wk ?_
      refine k_storeE1 rfl rfl i2 rfl (one_sl _ _ _) ?_
      refine wk ?_
      refine run_again ?_
      refine ⟨⟨k + 1, by omega⟩, (fun j => if j = 100 then 200 else j), by simp only; omega, ?_⟩
      exact sb
  · have hc : decide ((k : Int) < (((ps.map pdP).length : Nat) : Int)) = false := decide_eq_false (by omega)
    have hkk : ps.take k = ps := List.take_of_length_le (by omega)
    simp only [hkk]
    refine run_frz (fun _ => false) (fun k => k == 100) ?_
    exact wke
end Go.Proofs.YtgmahieoiifpfaaGreat
end
section
set_option linter.unusedVariables false
namespace Go.Proofs.YtgmahieoiifpfaaGreat
section
variable {α β : Type} {c : α → α → Int} {c' : β → β → Int} {P : α → Prop}
mutual
def mpT (f : α → β) : ST α → ST β
  | .mk m ch => .mk (m.map f) (mpC f ch)
def mpC (f : α → β) : List (α × ST α) → List (β × ST β)
  | [] => []
  | y :: r => (f y.1, mpT f y.2) :: mpC f r
end
theorem insL_mp (f : α → β) {p : α} : ∀ {l : List α}, (∀ x ∈ l, c' (f x) (f p) = c x p) → insL_ c' (l.map f) (f p) = (insL_ c l p).map f
  | [], _ => rfl
  | x :: r, h => by
    rw [List.map_cons]
    unfold insL_
    rw [h x (by simp), insL_mp f fun y hy => h y (by simp [hy])]
    split
    · rfl
    · split <;> rfl
theorem insM_map (f : α → β) {p : α} {j : ST α} : ∀ {l : List (α × ST α)}, (∀ x ∈ l, c' (f x.1) (f p) = c x.1 p) → insM c' (mpC f l) (f p) (mpT f j) = mpC f (insM c l p j)
  | [], _ => by
    unfold mpC insM
    unfold mpC
    unfold mpC
    rfl
  | x :: r, h => by
    have ih := insM_map f (j := j) (l := r) fun y hy => h y (by simp [hy])
    conv => lhs; arg 2; unfold mpC
    unfold insM
    simp only
    rw [h x (by simp), ih]
    split
    · conv => rhs; unfold mpC
    · split
      · conv => rhs; unfold mpC
      · conv => rhs; unfold mpC
        conv => rhs; arg 2; unfold mpC
theorem getR_map (f : α → β) {p : α} : ∀ {l : List (α × ST α)}, (∀ x ∈ l, c' (f x.1) (f p) = c x.1 p) → getR c' (mpC f l) (f p) = (getR c l p).map (mpT f)
  | [], _ => by unfold mpC; rfl
  | x :: r, h => by
    have ih := getR_map f (l := r) fun y hy => h y (by simp [hy])
    unfold mpC
    rw [getR_cons, getR_cons, ih]
    simp only
    rw [h x (by simp)]
    split
    · rfl
    · split <;> rfl
theorem insT_map (f : α → β) (hf : ∀ x y, P x → P y → c' (f x) (f y) = c x y) : ∀ (p : List α) (t : ST α), (∀ x ∈ p, P x) → WFT c P t → insT c' (p.map f) (mpT f t) = mpT f (insT c p t)
  | [], t, hp, ht => by
    show insT c' [] _ = _
    unfold insT
    rfl
  | [p], .mk m ch, hp, ht => by
    obtain ⟨w1, w2, w3, w4⟩ := WFT_iff.1 ht
    have h1 := insL_mp (c := c) (c' := c') f (p := p) (l := m) fun x hx => hf x p (w1 x hx) (hp p (by simp))
    show insT c' [f p] _ = _
    unfold mpT insT
    show ST.mk (insL_ c' (m.map f) (f p)) (mpC f ch) = ST.mk ((insL_ c m p).map f) (mpC f ch)
    rw [h1]
  | p :: q :: r, .mk m ch, hp, ht => by
    obtain ⟨w1, w2, w3, w4⟩ := WFT_iff.1 ht
    have w4 := WFC_iff.1 w4
    have hpp := hp p (by simp)
    have hk : ∀ x ∈ ch, c' (f x.1) (f p) = c x.1 p := fun x hx => hf x.1 p (w4 x hx).1 hpp
    have hg := getR_map (c := c) (c' := c') f (p := p) (l := ch) hk
    have hw : WFT c P ((getR c ch p).getD (.mk [] [])) := by
      cases hg2 : getR c ch p with
      | none => exact none_WFT
      | some t' => exact get_WFT (WFC_iff.2 w4) hg2
    have ih := insT_map f hf (q :: r) ((getR c ch p).getD (.mk [] [])) (fun x hx => hp x (by simp [hx])) hw
    have hd : mpT f ((getR c ch p).getD (.mk [] [])) = (getR c' (mpC f ch) (f p)).getD (.mk [] []) := by
      rw [hg]
      cases getR c ch p with
      | none =>
        show mpT f (.mk [] []) = .mk [] []
        unfold mpT mpC
        rfl
      | some t' => rfl
    have hm := insM_map (c := c) (c' := c') f (p := p) (j := insT c (q :: r) ((getR c ch p).getD (.mk [] []))) (l := ch) hk
    have e1 : insT c' ((p :: q :: r).map f) (mpT f (.mk m ch)) = .mk (m.map f) (insM c' (mpC f ch) (f p) (insT c' ((q :: r).map f) ((getR c' (mpC f ch) (f p)).getD (.mk [] [])))) := by
      show insT c' (f p :: f q :: r.map f) _ = _
      unfold mpT
      rfl
    have e2 : insT c (p :: q :: r) (.mk m ch) = .mk m (insM c ch p (insT c (q :: r) ((getR c ch p).getD (.mk [] [])))) := rfl
    rw [e1, e2, ← hd, ih, hm]
    conv => rhs; unfold mpT
theorem ofP_map (O : OrdL c P) (f : α → β) (hf : ∀ x y, P x → P y → c' (f x) (f y) = c x y) (ps : List (List α)) (h : ∀ p ∈ ps, ∀ x ∈ p, P x) : ofP c' (ps.map (·.map f)) = mpT f (ofP c ps) := by
  have : ∀ (ps : List (List α)) (t : ST α), (∀ p ∈ ps, ∀ x ∈ p, P x) → WFT c P t → (ps.map (·.map f)).foldl (fun t p => insT c' p t) (mpT f t) = mpT f (ps.foldl (fun t p => insT c p t) t) := by
    intro ps
    induction ps with
    | nil => intro t _ _; rfl
    | cons p ps ih =>
      intro t h ht
      simp only [List.map_cons, List.foldl_cons]
      rw [insT_map f hf p t (h p (by simp)) ht]
      exact ih _ (fun q hq => h q (by simp [hq])) (ins_WFT O p t (h p (by simp)) ht)
  have h2 := this ps (.mk [] []) h none_WFT
  have e : mpT f (ST.mk [] [] : ST α) = .mk [] [] := by unfold mpT mpC; rfl
  rw [e] at h2
  exact h2
theorem mpT_m (f : α → β) (t : ST α) : (mpT f t).m = t.m.map f := by cases t; unfold mpT; rfl
end
end Go.Proofs.YtgmahieoiifpfaaGreat
end
section
set_option linter.unusedVariables false
namespace Go.Proofs.YtgmahieoiifpfaaGreat
open Go.RowKit
set_option linter.unusedSimpArgs false
theorem rkE_clean (x : EV) : rkE (cleanE x) = rkE x := by
  unfold rkE cleanE
  by_cases k1 : x.kind = 1
  · rw [if_pos k1, if_pos k1]; rfl
  rw [if_neg k1, if_neg k1]
  by_cases k2 : x.kind = 2
  · rw [if_pos k2, if_pos k2]; rfl
  rw [if_neg k2, if_neg k2]
  by_cases k3 : x.kind = 3
  · rw [if_pos k3, if_pos k3]; rfl
  rw [if_neg k3, if_neg k3]; rfl
theorem zip_clean : ∀ (ks : List ByteArray) (l : List GV), (ks.take (min ks.length l.length)).zip (cleanL (l.take (min ks.length l.length))) = (ks.zip l).map fun f => (f.1, cleanV f.2)
  | [], l => by simp
  | k :: ks, [] => by simp
  | k :: ks, v :: l => by
    simp only [List.length_cons, Nat.succ_min_succ, List.take_succ_cons, cleanL, List.zip_cons_cons, List.map_cons]
    rw [zip_clean ks l]
theorem kvE_clean {x : EV} (h : rkE x = 1) : kvE (cleanE x) = (kvE x).map fun f => (f.1, cleanV f.2) := by
  have k1 : x.kind = 1 := by
    unfold rkE at h
    by_cases k1 : x.kind = 1
    · exact k1
    · rw [if_neg k1] at h
      split at h
      · cases h
      · split at h <;> cases h
  unfold kvE cleanE
  rw [if_pos k1]
  exact zip_clean x.keys x.l
theorem cmpLx_mapl {α : Type} {c : α → α → Int} {f : α → α} (h : ∀ x y, c (f x) y = c x y) : ∀ (a b : List α), cmpLx c (a.map f) b = cmpLx c a b
  | [], b => rfl
  | x :: a, [] => rfl
  | x :: a, y :: b => by rw [List.map_cons, cmpLx_cons, cmpLx_cons, h, cmpLx_mapl h a b]
theorem cmpLx_mapr {α : Type} {c : α → α → Int} {f : α → α} (h : ∀ x y, c x (f y) = c x y) : ∀ (a b : List α), cmpLx c a (b.map f) = cmpLx c a b
  | [], [] => rfl
  | [], y :: b => rfl
  | x :: a, [] => rfl
  | x :: a, y :: b => by rw [List.map_cons, cmpLx_cons, cmpLx_cons, h, cmpLx_mapr h a b]
theorem eqLx_mapl {α : Type} {c : α → α → Bool} {f : α → α} (h : ∀ x y, c (f x) y = c x y) : ∀ (a b : List α), eqLx c (a.map f) b = eqLx c a b
  | [], [] => rfl
  | [], y :: b => rfl
  | x :: a, [] => rfl
  | x :: a, y :: b => by rw [List.map_cons]; unfold eqLx; rw [h, eqLx_mapl h a b]
theorem eqLx_mapr {α : Type} {c : α → α → Bool} {f : α → α} (h : ∀ x y, c x (f y) = c x y) : ∀ (a b : List α), eqLx c a (b.map f) = eqLx c a b
  | [], [] => rfl
  | [], y :: b => rfl
  | x :: a, [] => rfl
  | x :: a, y :: b => by rw [List.map_cons]; unfold eqLx; rw [h, eqLx_mapr h a b]
theorem clean_v {x : EV} (h : rkE x = 2) : (cleanE x).v = cleanV x.v := by
  unfold rkE at h
  unfold cleanE
  by_cases k1 : x.kind = 1
  · rw [if_pos k1] at h; cases h
  rw [if_neg k1] at h ⊢
  by_cases k2 : x.kind = 2
  · rw [if_pos k2]
  rw [if_neg k2] at h
  split at h <;> cases h
theorem clean_n {x : EV} (h : rkE x = 3) : (cleanE x).n = x.n := by
  unfold rkE at h
  unfold cleanE
  by_cases k1 : x.kind = 1
  · rw [if_pos k1] at h; cases h
  rw [if_neg k1] at h ⊢
  by_cases k2 : x.kind = 2
  · rw [if_pos k2] at h; cases h
  rw [if_neg k2] at h ⊢
  by_cases k3 : x.kind = 3
  · rw [if_pos k3]
  rw [if_neg k3] at h; cases h
theorem clean_s {x : EV} (h1 : ¬ rkE x = 1) (h2 : ¬ rkE x = 2) (h3 : ¬ rkE x = 3) : (cleanE x).s = x.s := by
  unfold rkE at h1 h2 h3
  unfold cleanE
  by_cases k1 : x.kind = 1
  · rw [if_pos k1] at h1; exact absurd rfl h1
  rw [if_neg k1] at h2 h3 ⊢
  by_cases k2 : x.kind = 2
  · rw [if_pos k2] at h2; exact absurd rfl h2
  rw [if_neg k2] at h3 ⊢
  by_cases k3 : x.kind = 3
  · rw [if_pos k3] at h3; exact absurd rfl h3
  rw [if_neg k3]
/-- An element's plain form is like it. -/
theorem like_clean (x : EV) : LikeE (cleanE x) x := by
  refine ⟨fun y => ?_, fun y => ?_, fun y => ?_, fun y => ?_⟩
  · unfold cmpE bodyE
    rw [rkE_clean]
    congr 1
    by_cases h1 : rkE x = 1
    · rw [if_pos h1, if_pos h1, kvE_clean h1]
      exact cmpLx_mapl (fun f g => by unfold cmpKv; simp only; rw [cleanV_idem]) _ _
    rw [if_neg h1, if_neg h1]
    by_cases h2 : rkE x = 2
    · rw [if_pos h2, if_pos h2, clean_v h2, cleanV_idem]
    rw [if_neg h2, if_neg h2]
    by_cases h3 : rkE x = 3
    · rw [if_pos h3, if_pos h3, clean_n h3]
    rw [if_neg h3, if_neg h3, clean_s h1 h2 h3]
  · unfold cmpE
    rw [rkE_clean]
    by_cases hr : cmpI (rkE y) (rkE x) = 0
    · rw [lx_zero hr, lx_zero hr]
      have hr : rkE y = rkE x := by
        unfold cmpI at hr
        split at hr
        · cases hr
        · split at hr
          · cases hr
          · omega
      unfold bodyE
      by_cases h1 : rkE y = 1
      · rw [if_pos h1, if_pos h1, kvE_clean (by rw [← hr]; exact h1)]
        exact cmpLx_mapr (fun f g => by unfold cmpKv; simp only; rw [cleanV_idem]) _ _
      rw [if_neg h1, if_neg h1]
      by_cases h2 : rkE y = 2
      · rw [if_pos h2, if_pos h2, clean_v (by rw [← hr]; exact h2), cleanV_idem]
      rw [if_neg h2, if_neg h2]
      by_cases h3 : rkE y = 3
      · rw [if_pos h3, if_pos h3, clean_n (by rw [← hr]; exact h3)]
      rw [if_neg h3, if_neg h3, clean_s (by rw [← hr]; exact h1) (by rw [← hr]; exact h2) (by rw [← hr]; exact h3)]
    · rw [lx_pos hr, lx_pos hr]
  · unfold eqE
    rw [rkE_clean]
    by_cases hr : rkE x = rkE y
    · rw [if_neg (show ¬ (rkE x ≠ rkE y) from fun h => h hr), if_neg (show ¬ (rkE x ≠ rkE y) from fun h => h hr)]
      by_cases h1 : rkE x = 1
      · rw [if_pos h1, if_pos h1, kvE_clean h1]
        exact eqLx_mapl (fun f g => by unfold eqKv; simp only; rw [cleanV_idem]) _ _
      rw [if_neg h1, if_neg h1]
      by_cases h2 : rkE x = 2
      · rw [if_pos h2, if_pos h2, clean_v h2, cleanV_idem]
      rw [if_neg h2, if_neg h2]
      by_cases h3 : rkE x = 3
      · rw [if_pos h3, if_pos h3, clean_n h3]
      rw [if_neg h3, if_neg h3, clean_s h1 h2 h3]
    · rw [if_pos hr, if_pos hr]
  · unfold eqE
    rw [rkE_clean]
    by_cases hr : rkE y = rkE x
    · rw [if_neg (show ¬ (rkE y ≠ rkE x) from fun h => h hr), if_neg (show ¬ (rkE y ≠ rkE x) from fun h => h hr)]
      by_cases h1 : rkE y = 1
      · rw [if_pos h1, if_pos h1, kvE_clean (by rw [← hr]; exact h1)]
        exact eqLx_mapr (fun f g => by unfold eqKv; simp only; rw [cleanV_idem]) _ _
      rw [if_neg h1, if_neg h1]
      by_cases h2 : rkE y = 2
      · rw [if_pos h2, if_pos h2, clean_v (by rw [← hr]; exact h2), cleanV_idem]
      rw [if_neg h2, if_neg h2]
      by_cases h3 : rkE y = 3
      · rw [if_pos h3, if_pos h3, clean_n (by rw [← hr]; exact h3)]
      rw [if_neg h3, if_neg h3, clean_s (by rw [← hr]; exact h1) (by rw [← hr]; exact h2) (by rw [← hr]; exact h3)]
    · rw [if_pos hr, if_pos hr]
theorem OE.clean {x : EV} (h : OE x) : OE (cleanE x) := by
  obtain ⟨z, hz, l⟩ := h
  have c := like_clean x
  exact ⟨z, hz, ⟨fun y => (c.l y).trans (l.l y), fun y => (c.r y).trans (l.r y), fun y => (c.el y).trans (l.el y), fun y => (c.er y).trans (l.er y)⟩⟩
theorem cw_mapl {α : Type} {c : α → α → Int} {f : α → α} (h : ∀ x y, c (f x) y = c x y) : ∀ (a b : List α), cw c (a.map f) b = cw c a b
  | [], b => rfl
  | x :: a, [] => rfl
  | x :: a, y :: b => by
    rw [List.map_cons, cw_cons, cw_cons, h, cw_mapl h a b]
    cases a <;> rfl
theorem cw_mapr {α : Type} {c : α → α → Int} {f : α → α} (h : ∀ x y, c x (f y) = c x y) : ∀ (a b : List α), cw c a (b.map f) = cw c a b
  | [], [] => rfl
  | [], y :: b => rfl
  | x :: a, [] => rfl
  | x :: a, y :: b => by
    rw [List.map_cons, cw_cons, cw_cons, h, cw_mapr h a b]
    cases b <;> rfl
theorem cw_cl (a b : List EV) : cw cmpE a (b.map cleanE) = cw cmpE a b := cw_mapr (fun x y => (like_clean y).r x) a b
theorem cw_cr (a b : List EV) : cw cmpE (a.map cleanE) b = cw cmpE a b := cw_mapl (fun x y => (like_clean x).l y) a b
theorem loc_congr {α : Type} {c : α → α → Int} {p q : α} (h : ∀ x, c x p = c x q) : ∀ l : List α, locL_ c l p = locL_ c l q ∧ fndL_ c l p = fndL_ c l q
  | [] => ⟨rfl, rfl⟩
  | x :: r => by
    unfold locL_ fndL_
    rw [h x, (loc_congr h r).1, (loc_congr h r).2]
    exact ⟨rfl, rfl⟩
/-- The paths that SetOf puts in. -/
def clP (ps : List (List EV)) : List (List EV) := (ps.filter fun p => !p.isEmpty).map (·.map cleanE)
theorem insC_eq {s : List (List EV)} {p : List EV} (h : p ≠ []) : insC s p = insL_ (cw cmpE) s (p.map cleanE) := by
  unfold insC
  rw [if_neg h, sins_loc]
  obtain ⟨h1, h2⟩ := loc_congr (c := cw cmpE) (p := p.map cleanE) (q := p) (fun x => cw_cl x p) s
  rw [h1, h2]
theorem setOf_eq (ps : List (List EV)) : setOf ps = setL_ (cw cmpE) (clP ps) := by
  have : ∀ (ps : List (List EV)) (s : List (List EV)), ps.foldl insC s = (clP ps).foldl (insL_ (cw cmpE)) s := by
    intro ps
    induction ps with
    | nil => intro s; rfl
    | cons p ps ih =>
      intro s
      rw [List.foldl_cons, ih]
      unfold clP
      rw [List.filter_cons]
      cases p with
      | nil => rw [show insC s [] = s from by unfold insC; rw [if_pos rfl]]; rfl
      | cons x p =>
        rw [insC_eq (by simp)]
        rfl
  exact this ps []
theorem clP_P {ps : List (List EV)} (h : ∀ p ∈ ps, ∀ x ∈ p, OE x) : ∀ a ∈ clP ps, PP OE a := fun a ha => by
  unfold clP at ha
  obtain ⟨p, hp, rfl⟩ := List.mem_map.1 ha
  obtain ⟨hp, hne⟩ := List.mem_filter.1 hp
  refine ⟨fun e => ?_, fun x hx => ?_⟩
  · have : p = [] := List.map_eq_nil_iff.1 e
    subst this
    simp at hne
  · obtain ⟨y, hy, rfl⟩ := List.mem_map.1 hx
    exact (h p hp y hy).clean
theorem setOf_ok {ps : List (List EV)} (h : ∀ p ∈ ps, ∀ x ∈ p, OE x) : SetOk (setOf ps) := by
  rw [setOf_eq]
  exact ⟨set_P ordPV (clP_P h), set_srt ordPV (clP_P h)⟩
theorem has_clP (q : List EV) (hq : q ≠ []) : ∀ ps : List (List EV), hasL_ (cw cmpE) (clP ps) q = hasL_ (cw cmpE) ps q
  | [] => rfl
  | p :: ps => by
    have ih := has_clP q hq ps
    unfold clP at ih ⊢
    rw [List.filter_cons, has_cons]
    cases p with
    | nil =>
      have : decide (cw cmpE [] q = 0) = false := by
        cases q with
        | nil => exact absurd rfl hq
        | cons y q => rfl
      rw [this, Bool.false_or]
      exact ih
    | cons x p =>
      simp only [List.isEmpty_cons, Bool.not_false, if_true, List.map_cons]
      rw [has_cons, ih]
      have := cw_cr (x :: p) q
      rw [List.map_cons] at this
      rw [this]
theorem setOf_has {ps : List (List EV)} (h : ∀ p ∈ ps, ∀ x ∈ p, OE x) {q : List EV} (hq : PP OE q) : hasL_ (cw cmpE) (setOf ps) q = hasL_ (cw cmpE) ps q := by
  rw [setOf_eq, has_set ordPV (clP_P h) hq, has_clP q hq.1]
/-- The walk of the tree and the specification's list are equal in pairs. -/
theorem walk_setOf {ps : List (List EV)} (h : ∀ p ∈ ps, ∀ x ∈ p, OE x) : cmpLx (cw cmpE) (walk (ofP cmpE ps)) (setOf ps) = 0 := by
  have hW := ofP_WFT (c := cmpE) ordEV h
  refine srt_ext ordPV _ _ (walk_PP _ hW) (setOf_ok h).P (srt_walk ordEV _ hW) (setOf_ok h).S fun q hq => ?_
  rw [setOf_has h hq]
  obtain ⟨hne, hq2⟩ := hq
  cases q with
  | nil => exact absurd rfl hne
  | cons p q =>
    rw [has_walk ordEV _ hW p q (hq2 p (by simp)) (fun x hx => hq2 x (by simp [hx]))]
    exact ofP_has ordEV h ⟨hne, hq2⟩
theorem membE_cons (p : List EV) (s : List (List EV)) : membE (p :: s) = (match p with | [x] => [x] | _ => []) ++ membE s := by
  unfold membE
  rw [List.filterMap_cons]
  match p with
  | [] => rfl
  | [x] => rfl
  | x :: y :: r => rfl
theorem memb_eq : ∀ (A B : List (List EV)), (∀ a ∈ A, ∀ x ∈ a, OE x) → (∀ b ∈ B, ∀ x ∈ b, OE x) → cmpLx (cw cmpE) A B = 0 → eqLx eqE (membE A) (membE B) = true
  | [], [], _, _, _ => rfl
  | [], _ :: _, _, _, h => by cases h
  | _ :: _, [], _, _, h => by cases h
  | a :: A, b :: B, hA, hB, h => by
    rw [cmpLx_cons, lx_is_zero] at h
    have ih := memb_eq A B (fun x hx => hA x (by simp [hx])) (fun x hx => hB x (by simp [hx])) h.2
    have h0 := (cw_zero a b).1 h.1
    rw [membE_cons, membE_cons]
    match a, b, h0 with
    | [], [], _ => exact ih
    | [], _ :: _, h0 => cases h0
    | _ :: _, [], h0 => cases h0
    | [x], [y], h0 =>
      rw [cmpLx_cons, lx_is_zero] at h0
      show eqLx eqE (x :: membE A) (y :: membE B) = true
      unfold eqLx
      rw [ih, (eqE_OE (hA [x] (by simp) x (by simp)) (hB [y] (by simp) y (by simp))).2 h0.1]
      rfl
    | [x], y :: z :: r, h0 =>
      rw [cmpLx_cons, lx_is_zero] at h0
      cases h0.2
    | x :: z :: r, [y], h0 =>
      rw [cmpLx_cons, lx_is_zero] at h0
      cases h0.2
    | x :: z :: r, y :: z' :: r', h0 => exact ih
theorem memb_long (l : List (List EV)) (h : ∀ a ∈ l, 2 ≤ a.length) : membE l = [] := by
  induction l with
  | nil => rfl
  | cons a l ih =>
    rw [membE_cons, ih fun b hb => h b (by simp [hb])]
    match a, h a (by simp) with
    | [], h => simp at h
    | [x], h => simp at h
    | x :: y :: r, _ => rfl
theorem memb_walk {t : ST EV} (h : WFT cmpE OE t) : membE (walk t) = t.m := by
  rw [walk_eq]
  have e1 : ∀ (m : List EV) (l : List (List EV)), membE (m.map (fun x => [x]) ++ l) = m ++ membE l := by
    intro m
    induction m with
    | nil => intro l; rfl
    | cons x m ih => intro l; rw [List.map_cons, List.cons_append, membE_cons, ih]; rfl
  rw [e1, memb_long, List.append_nil]
  intro a ha
  obtain ⟨x, q, rfl, _, hq⟩ := walkC_PP t.c (WFT_iff.1 h).2.2.2 a ha
  have : q.length ≠ 0 := fun e => hq.1 (List.eq_nil_of_length_eq_zero e)
  simp only [List.length_cons]
  omega
theorem setMembers_law {ps : List (List EV)} (h : ∀ p ∈ ps, ∀ x ∈ p, OPE (toPE x)) : eqLx eqE ((ofP cmpE ps).m.map cleanE) (membE (setOf ps)) = true := by
  have h' : ∀ p ∈ ps, ∀ x ∈ p, OE x := fun p hp x hx => OE.raw (h p hp x hx)
  have hW := ofP_WFT (c := cmpE) ordEV h'
  rw [eqLx_mapl fun x y => (like_clean x).el y, ← memb_walk hW]
  exact memb_eq _ _ (fun a ha x hx => (walk_PP _ hW a ha).2 x hx) (fun b hb x hx => ((setOf_ok h').P b hb).2 x hx) (walk_setOf h')
theorem ofP_toPE {ps : List (List EV)} (h : ∀ p ∈ ps, ∀ x ∈ p, OPE (toPE x)) : (ofP cmpPE (ps.map (·.map toPE))).m = (ofP cmpE ps).m.map toPE := by
  rw [ofP_map ordEr toPE (fun x y hx hy => cmpE_law hx.j hy.j) ps h, mpT_m]
end Go.Proofs.YtgmahieoiifpfaaGreat
end
section
set_option linter.unusedVariables false
namespace Go.Proofs.YtgmahieoiifpfaaGreat
open Go.RowKit
set_option linter.unusedSimpArgs false
theorem zip_fst_take {α β : Type} : ∀ (a : List α) (b : List β), (a.zip b).map (·.1) = a.take (min a.length b.length)
  | [], b => by simp
  | x :: a, [] => by simp
  | x :: a, y :: b => by simp [zip_fst_take a b, Nat.succ_min_succ]
theorem zip_un : ∀ (a : List ByteArray) (b : List GV), ((a.zip (b.map plainJ)).map fun p => unJ p.2) = cleanL (b.take (min a.length b.length))
  | [], b => by simp [cleanL]
  | x :: a, [] => by simp [cleanL]
  | x :: a, y :: b => by
    have := zip_un a b
    simp only [List.map_cons, List.zip_cons_cons, List.length_cons, Nat.succ_min_succ, List.take_succ_cons, cleanL]
    rw [this, un_plain]
/-- An element made into the package's and taken apart again: its plain form. -/
theorem unPE_toPE (x : EV) : unPE (toPE x) = cleanE x := by
  unfold toPE cleanE
  split
  · simp only [unPE, flE]
    rw [zip_fst_take, zip_un, List.length_map]
  split
  · simp [unPE, un_plain]
  split
  · simp [unPE]
  · simp [unPE]
end Go.Proofs.YtgmahieoiifpfaaGreat
end
section
set_option linter.unusedVariables false
namespace Go.Proofs.YtgmahieoiifpfaaGreat
open Go.RowKit
set_option linter.unusedSimpArgs false
theorem KL_fits {x : EV} (h : Fits (pdE x)) : KL (toPE x) := by
  intro fl hfl
  have h1 : Fits (.sl 6 88 (pdVs x.l)) := Fits.aggAt h 3 rfl
  have h2 := h1.sl.1
  rw [pdVs_len] at h2
  unfold toPE at hfl
  split at hfl
  · injection hfl with hfl
    subst hfl
    rw [flE_length]
    omega
  · split at hfl
    · cases hfl
    · split at hfl <;> cases hfl
theorem paths_ok {ps : List (List EV)} (h : Fits (.sl 1 24 (ps.map pdP))) (ho : (ps.all fun p => p.all ordE) = true) : ∀ p ∈ ps, ∀ x ∈ p, OPE (toPE x) ∧ KL (toPE x) := fun p hp x hx => by
  have h1 : Fits (.sl 11 168 (p.map pdE)) := h.sl.2.2 (pdP p) (List.mem_map.2 ⟨p, hp, rfl⟩)
  have h2 : Fits (pdE x) := h1.sl.2.2 (pdE x) (List.mem_map.2 ⟨x, hx, rfl⟩)
  exact ⟨OPE_ord (JPE_fits h2) (List.all_eq_true.1 (List.all_eq_true.1 ho p hp) x hx), KL_fits h2⟩
set_option maxHeartbeats 8000000 in
theorem lawSM_p (ps : List (List EV)) : PCall Tryz.prog 4 [.sl 1 24 (ps.map pdP)] (.val (.bool true)) := by
  refine pcall_fits fun hfit => ?_
  have b0 := hfit (.sl 1 24 (ps.map pdP)) (by simp)
  clear hfit
  have n1 : (ps.map pdP).length = ps.length := by simp
  by_cases h1 : 2147483647 < ps.length
  · have g1 : decide ((2147483647 : Int) < (((ps.map pdP).length : Nat) : Int)) = true := decide_eq_true (by omega)
    clear b0
    generalize ps.map pdP = da at *
    refine pcall_of_run Tryz.func4 rfl Tryz.ntmps4 rfl (fun X => ?_)
    exact wke
  have g1 : decide ((2147483647 : Int) < (((ps.map pdP).length : Nat) : Int)) = false := decide_eq_false (by omega)
  have c1 := ordPaths_p ps
  cases ho : (ps.all fun p => p.all ordE) with
  | false =>
    rw [ho] at c1
    clear b0 ho n1 h1
    generalize ps.map pdP = da at *
    refine pcall_of_run Tryz.func4 rfl Tryz.ntmps4 rfl (fun X => ?_)
    exact wke
  | true =>
    rw [ho] at c1
    have hO := paths_ok b0 ho
    have hO1 : ∀ p ∈ ps, ∀ x ∈ p, OPE (toPE x) := fun p hp x hx => (hO p hp x hx).1
    have hO2 : ∀ p ∈ ps, ∀ x ∈ p, OE x := fun p hp x hx => OE.raw (hO1 p hp x hx)
    have c2 := setMembers_p ps hO (by omega)
    have c3 := setOf_p ps (by omega) hO2 fun k => setOf_ok fun p hp => hO2 p (List.mem_of_mem_take hp)
    have hl := setOf_len ps ps.length
    rw [List.take_length] at hl
    have c4 := members_p (setOf ps) (by omega)
    have c5 := eqElemLists_p ((ofP cmpE ps).m.map cleanE) (membE (setOf ps))
    rw [setMembers_law hO1] at c5
    have e : ((ofP cmpPE (ps.map (·.map toPE))).m.map fun p => pdE (unPE p)) = ((ofP cmpE ps).m.map cleanE).map pdE := by
      rw [ofP_toPE hO1, List.map_map, List.map_map]
      congr 1
      funext x
      show pdE (unPE (toPE x)) = pdE (cleanE x)
      rw [unPE_toPE]
    rw [e] at c2
    unfold pdP at c4 c5
    have c3 : PCall Tryz.prog 25 [.sl 1 24 (ps.map pdP)] (.sl 1 24 ((setOf ps).map fun l => .sl 11 168 (l.map pdE))) := c3
    clear e hl hO2 hO1 hO ho b0 h1
    generalize ((ofP cmpE ps).m.map cleanE).map pdE = d1 at *
    generalize (membE (setOf ps)).map pdE = d2 at *
    generalize ((setOf ps).map fun l => PD.sl 11 168 (l.map pdE)) = d3 at *
    generalize ps.map pdP = da at *
    refine pcall_of_run Tryz.func4 rfl Tryz.ntmps4 rfl (fun X => ?_)
    exact wke
end Go.Proofs.YtgmahieoiifpfaaGreat
end
section
namespace Go.Proofs.YtgmahieoiifpfaaGreat
open Go.ChangeShapes Go.WideShapes Go.ChangeAt Go.RowKit
theorem trodFloat {H : Type} {enc : TypeId × Value → H} {P : Program} {w : World} {base : Nat} {spare : Nat → Bool} {held : Bool} {fuel : Nat} {t : TypeId} {cs : List Value} {x : DataW H × List MemPlace} {k : FloatKind}
    (ht : P.underlying t = some (.float k)) (h : DataW.trod enc P w base spare held fuel t cs = some x) : ∃ n, cs = [.float k n] ∧ (Lit.float k n).wf = true := by
  cases fuel with
  | zero => simp [DataW.trod] at h
  | succ n =>
    unfold DataW.trod at h
    rw [ht] at h
    split at h <;> simp_all
theorem weights_mem_all {H : Type} {P : Program} {e : TypeId} : ∀ {ds : List (DataW H)} {d : DataW H}, d ∈ ds → ∀ n ∈ d.weights P e, n ∈ DataW.weightsAll P e ds
  | d0 :: ds, d, hd, n, hn => by
    simp only [DataW.weightsAll, List.mem_append]
    rcases List.mem_cons.1 hd with rfl | hd
    · exact .inl hn
    · exact .inr (weights_mem_all hd n hn)
theorem Tryz.cellsVal : Tryz.prog.cellsOf 27 = 6 := by kernel_rfl
theorem Tryz.cellsStr : Tryz.prog.cellsOf 9 = 1 := by kernel_rfl
theorem Tryz.cellsInt : Tryz.prog.cellsOf 3 = 1 := by kernel_rfl
theorem Tryz.cellsInt64 : Tryz.prog.cellsOf 2 = 1 := by kernel_rfl
theorem Tryz.cellsFlt : Tryz.prog.cellsOf 25 = 1 := by kernel_rfl
theorem Tryz.cellsStrs : Tryz.prog.cellsOf 24 = 1 := by kernel_rfl
theorem Tryz.cellsVals : Tryz.prog.cellsOf 23 = 1 := by kernel_rfl
theorem Tryz.bytesVal : Tryz.prog.bytesOf 27 = 88 := by kernel_rfl
theorem Tryz.bytesStr : Tryz.prog.bytesOf 9 = 16 := by kernel_rfl
theorem cells_six {w : World} {base : Nat} {a : Addr} {cs : List Value} (h : w.cells? base a 6 = some cs) :
    ∃ c0 c1 c2 c3 c4 c5, cs = [c0, c1, c2, c3, c4, c5] ∧ w.cell? a = some c0 ∧ w.cell? (a.add 1) = some c1 ∧ w.cell? (a.add 2) = some c2 ∧ w.cell? (a.add 3) = some c3 ∧ w.cell? (a.add 4) = some c4 ∧ w.cell? (a.add 5) = some c5 := by
  unfold World.cells? at h
  split at h
  · simp only [List.range, List.range.loop, List.mapM_cons, List.mapM_nil] at h
    simp only [Option.bind_eq_bind, Option.bind_eq_some_iff, Option.pure_def, Option.some.injEq] at h
    obtain ⟨c0, h0, l1, ⟨c1, h1, l2, ⟨c2, h2, l3, ⟨c3, h3, l4, ⟨c4, h4, l5, ⟨c5, h5, l6, e6, e5⟩, e4⟩, e3⟩, e2⟩, e1⟩, e0⟩ := h
    subst e6 e5 e4 e3 e2 e1 e0
    exact ⟨c0, c1, c2, c3, c4, c5, rfl, by simpa [Addr.add] using h0, h1, h2, h3, h4, h5⟩
  · simp at h
theorem isVs_of {w : World} {S : Nat → Prop} {b : Nat} : ∀ (n o : Nat), (∀ i, i < n → ∃ x c0 c1 c2 c3 c4 c5, w.cell? ⟨b, o + i * 6, none⟩ = some c0 ∧ w.cell? ⟨b, o + i * 6 + 1, none⟩ = some c1 ∧ w.cell? ⟨b, o + i * 6 + 2, none⟩ = some c2 ∧
      w.cell? ⟨b, o + i * 6 + 3, none⟩ = some c3 ∧ w.cell? ⟨b, o + i * 6 + 4, none⟩ = some c4 ∧ w.cell? ⟨b, o + i * 6 + 5, none⟩ = some c5 ∧ IsV w S x (.agg #[c0, c1, c2, c3, c4, c5])) → ∃ l : List GV, l.length = n ∧ IsVs w S l b o
  | 0, _, _ => ⟨[], rfl, by simp [IsVs]⟩
  | n + 1, o, h => by
    obtain ⟨x, c0, c1, c2, c3, c4, c5, h0⟩ := h 0 (Nat.succ_pos _)
    obtain ⟨l, hl, hv⟩ := isVs_of (w := w) (S := S) (b := b) n (o + 6) (fun i hi => by
      have := h (i + 1) (by omega)
      rwa [show o + (i + 1) * 6 = o + 6 + i * 6 by omega] at this)
    refine ⟨x :: l, by simp [hl], ?_⟩
    unfold IsVs
    exact ⟨⟨c0, c1, c2, c3, c4, c5, by simpa using h0⟩, hv⟩
theorem isStrs_of_trod {H : Type} {enc : TypeId × Value → H} {w : World} {fuel : Nat} {cs : List Value} {d : DataW H} {ps : List MemPlace}
    (h : DataW.trod enc Tryz.prog w 0 (fun _ => true) true fuel 24 cs = some (d, ps)) (hw : ∀ n ∈ d.weights Tryz.prog 24, n ≤ reachBytes) :
    ∃ v ks, cs = [v] ∧ IsStrs w (Btw 0 w.heap.size) v ks := by
  rcases open_strings Tryz.underlying24 Tryz.underlying9 Tryz.cellsStr h with ⟨rfl, hx⟩ | ⟨a, len, cap, ss, rfl, _, hl, hm, hz, hx, hcell, hws⟩
  · exact ⟨_, [], rfl, none, 0, rfl, Nat.le_refl _, by decide, by simp, fun h => by simp at h⟩
  · simp only [if_true] at hz
    simp only [Prod.mk.injEq] at hx
    obtain ⟨rfl, rfl⟩ := hx
    have hlen : (ss.take len).length = len := by simp; omega
    have hsz := hw (((strs (H := H) (ss.take len)).length + (strs (H := H) (ss.drop len)).length) * Tryz.prog.bytesOf 9) (by simp [DataW.weights, Tryz.underlying24])
    rw [Tryz.bytesStr] at hsz
    simp only [strs, List.length_map, List.length_take, List.length_drop, reachBytes] at hsz
    refine ⟨_, ss.take len, rfl, some a, cap, by rw [hlen], by rw [hlen]; exact hl, by rw [hlen]; omega, fun s hs => hws s (List.mem_of_mem_take hs), fun hp => ?_⟩
    rw [hlen] at hp
    have h0 := hcell 0 (by omega)
    have hspot : a.spot = none := by simpa [Addr.add] using World.cell?_spot h0
    obtain ⟨b, o, sp⟩ := a
    subst hspot
    refine ⟨b, o, ⟨Nat.zero_le _, by have := World.block_lt_of_cell? w _ h0; simpa [Addr.add] using this⟩, rfl, fun i hi => ?_⟩
    rw [hlen] at hi
    have := hcell i (by omega)
    rw [add_plain] at this
    rw [this]
    simp [List.getD, hi]
set_option maxRecDepth 100000 in
set_option maxHeartbeats 1000000 in
theorem isV_of_trod {H : Type} {enc : TypeId × Value → H} {w : World} (fuel : Nat) {cs : List Value} {d : DataW H} {ps : List MemPlace}
    (h : DataW.trod enc Tryz.prog w 0 (fun _ => true) true fuel 27 cs = some (d, ps)) (hw : ∀ n ∈ d.weights Tryz.prog 27, n ≤ reachBytes) :
    ∃ x c0 c1 c2 c3 c4 c5, cs = [c0, c1, c2, c3, c4, c5] ∧ IsV w (Btw 0 w.heap.size) x (.agg #[c0, c1, c2, c3, c4, c5]) := by
  obtain ⟨xs, n, rfl, hx, hl, hlen, hf⟩ := DataW.trod_struct Tryz.underlying27 h
  rw [Tryz.cellsVal] at hl
  match cs, hl with
  | [c0, c1, c2, c3, c4, c5], _ =>
  match xs, hlen with
  | [y0, y1, y2, y3, y4, y5], _ =>
  have h0 : DataW.trod enc Tryz.prog w 0 (fun _ => true) true n 3 (([c0, c1, c2, c3, c4, c5].drop 0).take (Tryz.prog.cellsOf 3)) = some y0 := (by have g := hf 0 _ rfl; exact g)
  have h1 : DataW.trod enc Tryz.prog w 0 (fun _ => true) true n 2 (([c0, c1, c2, c3, c4, c5].drop 1).take (Tryz.prog.cellsOf 2)) = some y1 := (by have g := hf 1 _ rfl; exact g)
  have h2 : DataW.trod enc Tryz.prog w 0 (fun _ => true) true n 25 (([c0, c1, c2, c3, c4, c5].drop 2).take (Tryz.prog.cellsOf 25)) = some y2 := (by have g := hf 2 _ rfl; exact g)
  have h3 : DataW.trod enc Tryz.prog w 0 (fun _ => true) true n 9 (([c0, c1, c2, c3, c4, c5].drop 3).take (Tryz.prog.cellsOf 9)) = some y3 := (by have g := hf 3 _ rfl; exact g)
  have h4 : DataW.trod enc Tryz.prog w 0 (fun _ => true) true n 24 (([c0, c1, c2, c3, c4, c5].drop 4).take (Tryz.prog.cellsOf 24)) = some y4 := (by have g := hf 4 _ rfl; exact g)
  have h5 : DataW.trod enc Tryz.prog w 0 (fun _ => true) true n 23 (([c0, c1, c2, c3, c4, c5].drop 5).take (Tryz.prog.cellsOf 23)) = some y5 := (by have g := hf 5 _ rfl; exact g)
  clear hf h
  simp only [Tryz.cellsInt, Tryz.cellsInt64, Tryz.cellsFlt, Tryz.cellsStr, Tryz.cellsStrs, Tryz.cellsVals, List.drop_zero, List.drop_succ_cons, List.take_succ_cons, List.take_zero] at h0 h1 h2 h3 h4 h5
  simp only [Prod.mk.injEq] at hx
  obtain ⟨rfl, rfl⟩ := hx
  obtain ⟨k, e0, -, w0⟩ := DataW.trod_int Tryz.underlying3 h0
  obtain ⟨m, e1, -, w1⟩ := DataW.trod_int Tryz.underlying2 h1
  obtain ⟨f, e2, w2⟩ := trodFloat Tryz.underlying25 h2
  obtain ⟨s, e3, -, w3⟩ := DataW.trod_string Tryz.underlying9 h3
  simp only [DataW.weights, Tryz.underlying27, List.map_cons, List.map_nil, DataW.weightsEach, List.mem_append, List.append_nil] at hw
  obtain ⟨v4, ks, e4, hks⟩ := isStrs_of_trod (d := y4.1) (ps := y4.2) h4 (fun n hn => hw n (by simp [hn]))
  simp only [List.cons.injEq, and_true] at e0 e1 e2 e3 e4
  subst e0 e1 e2 e3 e4
  have hw5 : ∀ n ∈ y5.1.weights Tryz.prog 23, n ≤ reachBytes := fun n hn => hw n (by simp [hn])
  clear h0 h1 h2 h3 h4 hw
  rcases DataW.trod_slice Tryz.underlying23 h5 with ⟨e5, -⟩ | ⟨a, len, cap, elems, rest, n', hn', e5, hx5, _, hlc, hm, hlen5, hel, _, _⟩
  · simp only [List.cons.injEq, and_true] at e5
    subst e5
    refine ⟨.mk k m f s ks [], _, _, _, _, _, _, rfl, ?_⟩
    unfold IsV
    exact ⟨_, none, 0, rfl, w0, w1, w2, w3, hks, Nat.le_refl _, by decide, .inl rfl⟩
  · simp only [List.cons.injEq, and_true] at e5
    subst e5
    rw [hx5] at hw5
    simp only [DataW.weights, Tryz.underlying23, Tryz.bytesVal, List.length_map] at hw5
    have hsz := hw5 ((elems.length + rest.length) * 88) (by simp)
    simp only [reachBytes] at hsz
    rw [Tryz.cellsVal] at hel
    have key : ∀ i, i < len → ∃ x c0 c1 c2 c3 c4 c5, w.cell? (a.add (i * 6)) = some c0 ∧ w.cell? ((a.add (i * 6)).add 1) = some c1 ∧ w.cell? ((a.add (i * 6)).add 2) = some c2 ∧
        w.cell? ((a.add (i * 6)).add 3) = some c3 ∧ w.cell? ((a.add (i * 6)).add 4) = some c4 ∧ w.cell? ((a.add (i * 6)).add 5) = some c5 ∧ IsV w (Btw 0 w.heap.size) x (.agg #[c0, c1, c2, c3, c4, c5]) := by
      intro i hi
      have hb := hel i hi
      obtain ⟨y, hy⟩ : ∃ y, elems[i]? = some y := ⟨elems[i], by simp [hlen5, hi]⟩
      rw [hy, Option.bind_eq_some_iff] at hb
      obtain ⟨cs', hcs, hb⟩ := hb
      obtain ⟨x, c0, c1, c2, c3, c4, c5, rfl, hv⟩ := isV_of_trod n' (d := y.1) (ps := y.2) hb (fun q hq => hw5 q (by
        simp only [List.mem_cons, List.mem_append]
        exact .inr (.inl (weights_mem_all (List.mem_map_of_mem (List.mem_of_getElem? hy)) q hq))))
      obtain ⟨d0, d1, d2, d3, d4, d5, e, g⟩ := cells_six hcs
      simp only [List.cons.injEq, and_true] at e
      obtain ⟨rfl, rfl, rfl, rfl, rfl, rfl⟩ := e
      exact ⟨x, _, _, _, _, _, _, g.1, g.2.1, g.2.2.1, g.2.2.2.1, g.2.2.2.2.1, g.2.2.2.2.2, hv⟩
    by_cases hl0 : len = 0
    · subst hl0
      refine ⟨.mk k m f s ks [], _, _, _, _, _, _, rfl, ?_⟩
      unfold IsV
      exact ⟨_, some a, cap, rfl, w0, w1, w2, w3, hks, Nat.zero_le _, by decide, .inl rfl⟩
    · obtain ⟨_, _, _, _, _, _, _, g0, _⟩ := key 0 (by omega)
      have hspot : a.spot = none := by simpa [Addr.add] using World.cell?_spot g0
      have hlt := World.block_lt_of_cell? w _ g0
      obtain ⟨b, o, sp⟩ := a
      subst hspot
      simp only [add_plain] at key
      obtain ⟨l, hll, hvs⟩ := isVs_of (b := b) len o key
      refine ⟨.mk k m f s ks l, _, _, _, _, _, _, rfl, ?_⟩
      unfold IsV
      exact ⟨_, _, cap, by rw [hll], w0, w1, w2, w3, hks, by omega, by omega, .inr ⟨b, o, ⟨Nat.zero_le _, by simpa [Addr.add] using hlt⟩, rfl, hvs⟩⟩
termination_by fuel
decreasing_by omega
end Go.Proofs.YtgmahieoiifpfaaGreat
end
section
namespace Go.Proofs.YtgmahieoiifpfaaGreat
open Go.ChangeShapes Go.WideShapes Go.ChangeAt Go.RowKit
theorem Tryz.cellsElem : Tryz.prog.cellsOf 29 = 11 := by kernel_rfl
set_option maxHeartbeats 1000000 in
theorem isL_of_trod {H : Type} {enc : TypeId × Value → H} {w : World} (fuel : Nat) {cs : List Value} {d : DataW H} {ps : List MemPlace}
    (h5 : DataW.trod enc Tryz.prog w 0 (fun _ => true) true fuel 23 cs = some (d, ps)) (hw5 : ∀ n ∈ d.weights Tryz.prog 23, n ≤ reachBytes) :
    ∃ a c, ∃ l : List GV, cs = [.slice a l.length c] ∧ l.length ≤ c ∧ l.length * 88 ≤ 140737488351232 ∧ (l = [] ∨ ∃ b o, Btw 0 w.heap.size b ∧ a = some ⟨b, o, none⟩ ∧ IsVs w (Btw 0 w.heap.size) l b o) := by
  rcases DataW.trod_slice Tryz.underlying23 h5 with ⟨e5, -⟩ | ⟨a, len, cap, elems, rest, n', hn', e5, hx5, _, hlc, hm, hlen5, hel, _, _⟩
  · exact ⟨none, 0, [], e5, Nat.le_refl _, by decide, .inl rfl⟩
  · obtain ⟨rfl, _⟩ : d = _ ∧ ps = _ := by simpa only [Prod.mk.injEq] using hx5
    simp only [DataW.weights, Tryz.underlying23, Tryz.bytesVal, List.length_map] at hw5
    have hsz := hw5 ((elems.length + rest.length) * 88) (by simp)
    simp only [reachBytes] at hsz
    rw [Tryz.cellsVal] at hel
    have key : ∀ i, i < len → ∃ x c0 c1 c2 c3 c4 c5, w.cell? (a.add (i * 6)) = some c0 ∧ w.cell? ((a.add (i * 6)).add 1) = some c1 ∧ w.cell? ((a.add (i * 6)).add 2) = some c2 ∧
        w.cell? ((a.add (i * 6)).add 3) = some c3 ∧ w.cell? ((a.add (i * 6)).add 4) = some c4 ∧ w.cell? ((a.add (i * 6)).add 5) = some c5 ∧ IsV w (Btw 0 w.heap.size) x (.agg #[c0, c1, c2, c3, c4, c5]) := by
      intro i hi
      have hb := hel i hi
      obtain ⟨y, hy⟩ : ∃ y, elems[i]? = some y := ⟨elems[i], by simp [hlen5, hi]⟩
      rw [hy, Option.bind_eq_some_iff] at hb
      obtain ⟨cs', hcs, hb⟩ := hb
      obtain ⟨x, c0, c1, c2, c3, c4, c5, rfl, hv⟩ := isV_of_trod n' (d := y.1) (ps := y.2) hb (fun q hq => hw5 q (by
        simp only [List.mem_cons, List.mem_append]
        exact .inr (.inl (weights_mem_all (List.mem_map_of_mem (List.mem_of_getElem? hy)) q hq))))
      obtain ⟨d0, d1, d2, d3, d4, d5, e, g⟩ := cells_six hcs
      simp only [List.cons.injEq, and_true] at e
      obtain ⟨rfl, rfl, rfl, rfl, rfl, rfl⟩ := e
      exact ⟨x, _, _, _, _, _, _, g.1, g.2.1, g.2.2.1, g.2.2.2.1, g.2.2.2.2.1, g.2.2.2.2.2, hv⟩
    by_cases hl0 : len = 0
    · subst hl0
      exact ⟨some a, cap, [], e5, Nat.zero_le _, by decide, .inl rfl⟩
    · obtain ⟨_, _, _, _, _, _, _, g0, _⟩ := key 0 (by omega)
      have hspot : a.spot = none := by simpa [Addr.add] using World.cell?_spot g0
      have hlt := World.block_lt_of_cell? w _ g0
      obtain ⟨b, o, sp⟩ := a
      subst hspot
      simp only [add_plain] at key
      obtain ⟨l, hll, hvs⟩ := isVs_of (b := b) len o key
      exact ⟨_, cap, l, by rw [hll]; exact e5, by omega, by omega, .inr ⟨b, o, ⟨Nat.zero_le _, by simpa [Addr.add] using hlt⟩, rfl, hvs⟩⟩
set_option maxRecDepth 100000 in
set_option maxHeartbeats 1000000 in
theorem isE_of_trod {H : Type} {enc : TypeId × Value → H} {w : World} (fuel : Nat) {cs : List Value} {d : DataW H} {ps : List MemPlace}
    (h : DataW.trod enc Tryz.prog w 0 (fun _ => true) true fuel 29 cs = some (d, ps)) (hw : ∀ n ∈ d.weights Tryz.prog 29, n ≤ reachBytes) :
    ∃ x, IsE w (Btw 0 w.heap.size) x (.agg cs.toArray) := by
  obtain ⟨xs, n, rfl, hx, hl, hlen, hf⟩ := DataW.trod_struct Tryz.underlying29 h
  rw [Tryz.cellsElem] at hl
  match cs, hl with
  | [c0, c1, c2, c3, c4, c5, c6, c7, c8, c9, c10], _ =>
  match xs, hlen with
  | [y0, y1, y2, y3, y4, y5], _ =>
  have h0 : DataW.trod enc Tryz.prog w 0 (fun _ => true) true n 3 (([c0, c1, c2, c3, c4, c5, c6, c7, c8, c9, c10].drop 0).take (Tryz.prog.cellsOf 3)) = some y0 := (by have g := hf 0 _ rfl; exact g)
  have h1 : DataW.trod enc Tryz.prog w 0 (fun _ => true) true n 9 (([c0, c1, c2, c3, c4, c5, c6, c7, c8, c9, c10].drop 1).take (Tryz.prog.cellsOf 9)) = some y1 := (by have g := hf 1 _ rfl; exact g)
  have h2 : DataW.trod enc Tryz.prog w 0 (fun _ => true) true n 24 (([c0, c1, c2, c3, c4, c5, c6, c7, c8, c9, c10].drop 2).take (Tryz.prog.cellsOf 24)) = some y2 := (by have g := hf 2 _ rfl; exact g)
  have h3 : DataW.trod enc Tryz.prog w 0 (fun _ => true) true n 23 (([c0, c1, c2, c3, c4, c5, c6, c7, c8, c9, c10].drop 3).take (Tryz.prog.cellsOf 23)) = some y3 := (by have g := hf 3 _ rfl; exact g)
  have h4 : DataW.trod enc Tryz.prog w 0 (fun _ => true) true n 27 (([c0, c1, c2, c3, c4, c5, c6, c7, c8, c9, c10].drop 4).take (Tryz.prog.cellsOf 27)) = some y4 := (by have g := hf 4 _ rfl; exact g)
  have h5 : DataW.trod enc Tryz.prog w 0 (fun _ => true) true n 3 (([c0, c1, c2, c3, c4, c5, c6, c7, c8, c9, c10].drop 10).take (Tryz.prog.cellsOf 3)) = some y5 := (by have g := hf 5 _ rfl; exact g)
  clear hf h
  simp only [Tryz.cellsInt, Tryz.cellsStr, Tryz.cellsStrs, Tryz.cellsVals, Tryz.cellsVal, List.drop_zero, List.drop_succ_cons, List.take_succ_cons, List.take_zero] at h0 h1 h2 h3 h4 h5
  simp only [Prod.mk.injEq] at hx
  obtain ⟨rfl, rfl⟩ := hx
  obtain ⟨k, e0, -, w0⟩ := DataW.trod_int Tryz.underlying3 h0
  obtain ⟨s, e1, -, w1⟩ := DataW.trod_string Tryz.underlying9 h1
  obtain ⟨m, e5, -, w5⟩ := DataW.trod_int Tryz.underlying3 h5
  simp only [DataW.weights, Tryz.underlying29, List.map_cons, List.map_nil, DataW.weightsEach, List.mem_append, List.append_nil] at hw
  obtain ⟨v2, ks, e2, hks⟩ := isStrs_of_trod (d := y2.1) (ps := y2.2) h2 (fun n hn => hw n (by simp [hn]))
  obtain ⟨a, c, l, e3, hlc, hl88, hvs⟩ := isL_of_trod n (d := y3.1) (ps := y3.2) h3 (fun n hn => hw n (by simp [hn]))
  obtain ⟨y, d0, d1, d2, d3, d4, d5, e4, hy⟩ := isV_of_trod n (d := y4.1) (ps := y4.2) h4 (fun n hn => hw n (by simp [hn]))
  simp only [List.cons.injEq, and_true] at e0 e1 e2 e3 e4 e5
  obtain ⟨rfl, rfl, rfl, rfl, rfl, rfl⟩ := e4
  subst e0 e1 e2 e3 e5
  obtain ⟨ak, ck, rfl, hr⟩ := hks
  exact ⟨⟨k, s, ks, l, y, m⟩, ak, ck, a, c, _, _, _, _, _, _, rfl, w0, w5, w1, ⟨ak, ck, rfl, hr⟩, hlc, hl88, hvs, hy⟩
end Go.Proofs.YtgmahieoiifpfaaGreat
end
section
namespace Go.Proofs.YtgmahieoiifpfaaGreat
open Go.ChangeShapes Go.WideShapes Go.ChangeAt Go.RowKit
set_option linter.unusedSimpArgs false
section
variable {H : Type} {enc : TypeId × Value → H} {w : World} {F : Nat → Prop}
theorem repAgg {l : List PD} {cs : List Value} : Rep w F (.agg l) (.agg cs.toArray) ↔ Reps w F l cs ∧ ∀ u ∈ cs, u.oneCell' = true := by
  unfold Rep
  constructor
  · rintro ⟨vs, e, h1, h2⟩
    simp only [Value.agg.injEq] at e
    have : cs = vs := by simpa using congrArg Array.toList e
    subst this
    exact ⟨h1, h2⟩
  · rintro ⟨h1, h2⟩
    exact ⟨cs, rfl, h1, h2⟩
theorem repL_of {α : Type} {pd : α → PD} {n b : Nat} : ∀ (m o : Nat), (∀ i, i < m → ∃ x cs, cs.length = n ∧ (∀ u ∈ cs, u.oneCell' = true) ∧ Lies w b (o + i * n) cs ∧ Rep w F (pd x) (.agg cs.toArray)) → ∃ l : List α, l.length = m ∧ RepL w F n (l.map pd) b o
  | 0, _, _ => ⟨[], rfl, by simp [RepL]⟩
  | m + 1, o, h => by
    obtain ⟨x, cs, h1, h2, h3, h4⟩ := h 0 (Nat.succ_pos _)
    obtain ⟨l, hl, hr⟩ := repL_of (pd := pd) (n := n) (b := b) m (o + n) (fun i hi => by
      obtain ⟨x, cs, g1, g2, g3, g4⟩ := h (i + 1) (by omega)
      exact ⟨x, cs, g1, g2, by rwa [show o + (i + 1) * n = o + n + i * n by rw [Nat.succ_mul]; omega] at g3, g4⟩)
    refine ⟨x :: l, by simp [hl], ?_⟩
    rw [List.map_cons]
    unfold RepL
    exact ⟨⟨_, h4, by simpa [Value.cells] using h1, by simpa [Value.cells] using h2, by simpa [Value.cells] using h3⟩, hr⟩
theorem slice_of_trod {α : Type} (pd : α → PD) (hpd : ∀ x, ∃ l, pd x = .agg l) {t e n y : Nat} (ht : Tryz.prog.underlying t = some (.slice e)) (hn : Tryz.prog.cellsOf e = n) (hn0 : 0 < n) (hy : Tryz.prog.bytesOf e = y) (hy0 : 0 < y) {fuel : Nat} {cs : List Value} {d : DataW H} {ps : List MemPlace}
    (h : DataW.trod enc Tryz.prog w 0 (fun _ => true) true fuel t cs = some (d, ps)) (hw : ∀ k ∈ d.weights Tryz.prog t, k ≤ reachBytes)
    (hi : ∀ fuel' cs' d' ps', fuel' < fuel → DataW.trod enc Tryz.prog w 0 (fun _ => true) true fuel' e cs' = some (d', ps') → (∀ k ∈ d'.weights Tryz.prog e, k ≤ reachBytes) → ∃ x, Rep w (Btw 0 w.heap.size) (pd x) (.agg cs'.toArray)) :
    ∃ (l : List α) (v : Value), cs = [v] ∧ Rep w (Btw 0 w.heap.size) (.sl n y (l.map pd)) v := by
  rcases DataW.trod_slice ht h with ⟨e5, -⟩ | ⟨a, len, cap, elems, rest, n', hn', e5, hx5, _, hlc, hm, hlen5, hel, _, _⟩
  · refine ⟨[], _, e5, ?_⟩
    unfold Rep
    exact ⟨none, 0, rfl, Nat.le_refl _, by simp, by simp, .inl rfl⟩
  · obtain ⟨rfl, _⟩ : d = _ ∧ ps = _ := by simpa only [Prod.mk.injEq] using hx5
    simp only [DataW.weights, ht, hy, List.length_map] at hw
    have hsz := hw ((elems.length + rest.length) * y) (by simp)
    simp only [reachBytes] at hsz
    rw [hn] at hel
    have key : ∀ i, i < len → ∃ (x : α) (cs' : List Value), cs'.length = n ∧ (∀ j, j < n → w.cell? ((a.add (i * n)).add j) = cs'[j]?) ∧ Rep w (Btw 0 w.heap.size) (pd x) (.agg cs'.toArray) := by
      intro i hi'
      have hb := hel i hi'
      obtain ⟨z, hz⟩ : ∃ z, elems[i]? = some z := ⟨elems[i], by simp [hlen5, hi']⟩
      rw [hz, Option.bind_eq_some_iff] at hb
      obtain ⟨cs', hcs, hb⟩ := hb
      obtain ⟨x, hx⟩ := hi n' cs' z.1 z.2 (by omega) hb (fun q hq => hw q (by
        simp only [List.mem_cons, List.mem_append]
        exact .inr (.inl (weights_mem_all (List.mem_map_of_mem (List.mem_of_getElem? hz)) q hq))))
      obtain ⟨_, h1, h2⟩ := World.cells?_some hcs
      exact ⟨x, cs', h1, h2, hx⟩
    have hlenB : len * y ≤ 140737488351232 := by
      have : len * y ≤ (elems.length + rest.length) * y := Nat.mul_le_mul_right _ (by omega)
      omega
    have hlenS : len ≤ 140737488351232 := Nat.le_trans (Nat.le_mul_of_pos_right _ hy0) hlenB
    by_cases hl0 : len = 0
    · subst hl0
      refine ⟨[], _, e5, ?_⟩
      unfold Rep
      exact ⟨some a, cap, rfl, Nat.zero_le _, by simp, by simp, .inl rfl⟩
    · obtain ⟨x0, cs0, g1, g2, g3⟩ := key 0 (by omega)
      have g0 : ∃ u, w.cell? ((a.add (0 * n)).add 0) = some u := ⟨cs0[0]'(by omega), by rw [g2 0 hn0]; simp⟩
      obtain ⟨u0, g0⟩ := g0
      have hspot : a.spot = none := by simpa [Addr.add] using World.cell?_spot g0
      have hlt := World.block_lt_of_cell? w _ g0
      obtain ⟨b, o, sp⟩ := a
      subst hspot
      simp only [add_plain] at key hlt
      obtain ⟨l, hll, hvs⟩ := repL_of (pd := pd) (n := n) (b := b) (F := Btw 0 w.heap.size) (w := w) len o (fun i hi' => by
        obtain ⟨x, cs', k1, k2, k3⟩ := key i hi'
        obtain ⟨q, hq⟩ := hpd x
        refine ⟨x, cs', k1, ?_, fun j u hj => ?_, k3⟩
        · rw [hq] at k3
          exact (repAgg.1 k3).2
        · rw [k2 j (by have := (List.getElem?_eq_some_iff.1 hj).1; omega)]
          exact hj)
      refine ⟨l, _, e5, ?_⟩
      unfold Rep
      rw [List.length_map]
      exact ⟨_, cap, by rw [hll], by omega, by rw [hll]; exact hlenB, by rw [hll]; exact hlenS, .inr ⟨b, o, ⟨Nat.zero_le _, by simpa using hlt⟩, rfl, hvs⟩⟩
end
section
variable {H : Type} {enc : TypeId × Value → H} {w : World}
set_option maxRecDepth 100000
set_option maxHeartbeats 2000000
end
end Go.Proofs.YtgmahieoiifpfaaGreat
end
section
namespace Go.Proofs.YtgmahieoiifpfaaGreat
open Go.ChangeShapes Go.WideShapes Go.ChangeAt Go.RowKit
theorem Tryz.bytesElem : Tryz.prog.bytesOf 29 = 168 := by kernel_rfl
section
variable {H : Type} {enc : TypeId × Value → H} {w : World}
set_option maxRecDepth 100000
set_option maxHeartbeats 2000000
theorem pdE_agg (x : EV) : ∃ l, pdE x = .agg l := ⟨_, rfl⟩
theorem openLE (fuel : Nat) {cs : List Value} {d : DataW H} {ps : List MemPlace} (h : DataW.trod enc Tryz.prog w 0 (fun _ => true) true fuel 22 cs = some (d, ps)) (hw : ∀ k ∈ d.weights Tryz.prog 22, k ≤ reachBytes) : ∃ (l : List EV) (v : Value), cs = [v] ∧ Rep w (Btw 0 w.heap.size) (.sl 11 168 (l.map pdE)) v :=
  slice_of_trod pdE pdE_agg Tryz.underlying22 Tryz.cellsElem (by omega) Tryz.bytesElem (by omega) h hw (fun f' cs' d' ps' hlt h' hw' => by
    obtain ⟨x, hx⟩ := isE_of_trod f' h' hw'
    exact ⟨x, isE_rep hx⟩)
end
end Go.Proofs.YtgmahieoiifpfaaGreat
end
section
namespace Go.Proofs.YtgmahieoiifpfaaGreat
open Go.ChangeShapes Go.WideShapes Go.ChangeAt Go.RowKit
theorem Tryz.cellsPath : Tryz.prog.cellsOf 22 = 1 := by kernel_rfl
theorem Tryz.bytesPath : Tryz.prog.bytesOf 22 = 24 := by kernel_rfl
section
variable {H : Type} {enc : TypeId × Value → H} {w : World} {F : Nat → Prop}
set_option maxRecDepth 100000
set_option maxHeartbeats 2000000
theorem repL_one {α : Type} {pd : α → PD} : ∀ {l : List α} {b o : Nat}, RepL w F 1 (l.map fun x => .agg [pd x]) b o → RepL w F 1 (l.map pd) b o
  | [], b, o, h => by simp only [List.map_nil]; unfold RepL; trivial
  | x :: l, b, o, h => by
    simp only [List.map_cons] at h ⊢
    unfold RepL at h ⊢
    obtain ⟨⟨u, h1, h2, h3, h4⟩, h5⟩ := h
    refine ⟨?_, repL_one h5⟩
    unfold Rep at h1
    obtain ⟨vs, rfl, h6, h7⟩ := h1
    unfold Reps at h6
    obtain ⟨c, r, rfl, h8, h9⟩ := h6
    unfold Reps at h9
    subst h9
    have hc := h7 c (by simp)
    have e : (Value.agg [c].toArray).cells.toList = [c] := by simp [Value.cells]
    rw [e] at h4
    refine ⟨c, h8, by rw [one_toList hc]; rfl, fun y hy => ?_, by rw [one_toList hc]; exact h4⟩
    rw [one_toList hc, List.mem_singleton] at hy
    rw [hy]; exact hc
theorem sl_one {α : Type} {pd : α → PD} {y : Nat} {l : List α} {v : Value} (h : Rep w F (.sl 1 y (l.map fun x => .agg [pd x])) v) : Rep w F (.sl 1 y (l.map pd)) v := by
  unfold Rep at h ⊢
  simp only [List.length_map] at h ⊢
  obtain ⟨a, c, h1, h2, h3, h4, h5⟩ := h
  refine ⟨a, c, h1, h2, h3, h4, ?_⟩
  rcases h5 with h5 | ⟨b, o, h5, h6, h7⟩
  · left
    have : l = [] := List.map_eq_nil_iff.1 h5
    rw [this]; rfl
  · exact .inr ⟨b, o, h5, h6, repL_one h7⟩
theorem openLLE (fuel : Nat) {cs : List Value} {d : DataW H} {ps : List MemPlace} (h : DataW.trod enc Tryz.prog w 0 (fun _ => true) true fuel 38 cs = some (d, ps)) (hw : ∀ k ∈ d.weights Tryz.prog 38, k ≤ reachBytes) : ∃ (l : List (List EV)) (v : Value), cs = [v] ∧ Rep w (Btw 0 w.heap.size) (.sl 1 24 (l.map pdP)) v := by
  obtain ⟨l, v, e, hr⟩ := slice_of_trod (fun x => PD.agg [pdP x]) (fun x => ⟨_, rfl⟩) Tryz.underlying38 Tryz.cellsPath (by omega) Tryz.bytesPath (by omega) h hw (fun f' cs' d' ps' hlt h' hw' => by
    obtain ⟨x, v, e, hx⟩ := openLE f' h' hw'
    subst e
    refine ⟨x, repAgg.2 ⟨?_, ?_⟩⟩
    · unfold Reps
      exact ⟨v, [], rfl, hx, by unfold Reps; rfl⟩
    · intro u hu
      rw [List.mem_singleton] at hu
      rw [hu]
      unfold Rep at hx
      obtain ⟨a, c, e, _⟩ := hx
      rw [e]; rfl)
  exact ⟨l, v, e, sl_one hr⟩
end
end Go.Proofs.YtgmahieoiifpfaaGreat
end
section
namespace Go.Proofs.YtgmahieoiifpfaaGreat
open Go
theorem andB {a b : Bool} (h : a = true) (h' : b = true) : (a && b) = true := by rw [h, h']; rfl
theorem joined_of {P : Program} {f : FuncId} {fn : Func} {s : ChangeSpec} {c : OpenClaim}
    (h0 : (c.wf (OpenSpec.ofChange s) : Bool) = true)
    (h1 : (laidOutB P : Bool) = true)
    (h2 : (mapsRowed P : Bool) = true)
    (h3 : (fn.params.all (P.readableRec ·) : Bool) = true)
    (h4 : (namedTie P c.named s.vars : Bool) = true)
    (h5 : ((c.stops == []) : Bool) = true)
    (h6 : ((P.stops == []) : Bool) = true)
    (h7 : ((c.knobs == []) : Bool) = true)
    (h8 : ((P.stopKnobs == []) : Bool) = true)
    (h9 : ((c.inPlace == P.inPlace f) : Bool) = true)
    (h10 : ((c.unfollowed == P.unfollowed f) : Bool) = true)
    (h11 : ((c.recurses == P.recurses f) : Bool) = true)
    (h12 : ((c.named == P.varsNamed f) : Bool) = true)
    (h13 : ((c.maps == (fn.params.toList ++ s.plain.varTypes P).any (P.mapsRec ·)) : Bool) = true)
    (h14 : ((c.ifaces == (fn.params.toList ++ s.plain.varTypes P).any (P.ifacesRec ·)) : Bool) = true)
    (h15 : ((c.mapsOut == P.mapsAmong fn.resultTypes.toList) : Bool) = true)
    (h16 : ((c.loops == (fn.params.toList ++ s.plain.varTypes P).any (P.loopsFrom ·)) : Bool) = true)
    (h17 : ((c.wideKeys == (fn.params.toList ++ s.plain.varTypes P ++ fn.resultTypes.toList).any (P.wideKeysFrom ·)) : Bool) = true)
    (h18 : (s.vars.all (P.varReadable ·) : Bool) = true)
    (h19 : (fn.resultTypes.all (fun t => P.readableRec t && decide (t < P.types.size)) : Bool) = true)
    (h20 : ((c.ifacesOut == fn.resultTypes.toList.any (P.ifacesRec ·)) : Bool) = true)
    (h21 : ((c.loopsOut == fn.resultTypes.toList.any (P.loopsFrom ·)) : Bool) = true)
    (h22 : ((c.plainKeys == P.plainKeys) : Bool) = true)
    (h23 : (c.shortTexts.isNone : Bool) = true)
    (h24 : (P.stopsHeard : Bool) = true)
    (h25 : (P.mayEnter : Bool) = true)
    (h26 : ((c.lifted == P.liftsFinal) : Bool) = true)
    (h27 : ((P.make == some c.make) : Bool) = true)
    (h28 : ((c.kinds == (if c.domain.isEmpty then [] else fn.params.toList.map fun t => match P.underlying t with | some (.int k) => some k | _ => none)) : Bool) = true)
    (h29 : ((c.pinned == c.pinnedBy) : Bool) = true)
    (h30 : ((c.veiled == (fn.params.toList ++ s.plain.varTypes P ++ fn.resultTypes.toList).any (P.veiledRec ·)) : Bool) = true)
    (h31 : (c.veiledFits P fn.params.toList (fn.params.toList ++ s.plain.varTypes P ++ fn.resultTypes.toList) : Bool) = true)
    : joinedFacts P f fn s c = true := by
  unfold joinedFacts
  exact andB (andB (andB (andB (andB (andB (andB (andB (andB (andB (andB (andB (andB (andB (andB (andB (andB (andB (andB (andB (andB (andB (andB (andB (andB (andB (andB (andB (andB (andB (andB h0 h1) h2) h3) h4) h5) h6) h7) h8) h9) h10) h11) h12) h13) h14) h15) h16) h17) h18) h19) h20) h21) h22) h23) h24) h25) h26) h27) h28) h29) h30) h31
end Go.Proofs.YtgmahieoiifpfaaGreat
end
