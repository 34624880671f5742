/- Part 14 of what the proof rests on. -/
import Derived.Test.YtgmahieoiifpfaaGreatScR13
set_option linter.unusedSimpArgs false
set_option linter.unusedVariables false
set_option maxHeartbeats 8000000
set_option maxRecDepth 100000
namespace Go.Proofs.YtgmahieoiifpfaaGreat
open Go.RowKit
theorem Yn7 (a : List (List EV)) (turn : Int) : PCall Tryz.prog 8 [.sl 1 24 (a.map pdP), .val (.int .i64 turn)] (.val (.bool true)) := by
 refine Zay fun hfit => ?_
 have fa := hfit (.sl 1 24 (a.map pdP)) (by simp)
 clear hfit
 have n1 : (a.map pdP).length = a.length := by simp
 by_cases h1 : 2147483647 < a.length
 ·have g1 : decide ((2147483647 : Int) < (((a.map pdP).length : Nat) : Int)) = true := decide_eq_true (by omega)
  clear fa
  generalize a.map pdP = da at *
  refine Zaa Tryz.func8 rfl Tryz.ntmps8 rfl (fun X => ?_)
  exact wke
 have g1 : decide ((2147483647 : Int) < (((a.map pdP).length : Nat) : Int)) = false := decide_eq_false (by omega)
 have l1 := Yrj h1
 have l0 : a.length ≤ 2147483647 := by omega
 have c2 := Zq0 a
 clear h1
 cases ho : (a.all fun p => p.all Zjx) with
 | false =>
  rw [ho] at c2
  clear fa ho l1
  generalize a.map pdP = da at *
  refine Zaa Tryz.func8 rfl Tryz.ntmps8 rfl (fun X => ?_)
  exact wke
 | true =>
 rw [ho] at c2
 have oa : LOk a := ⟨Zsw fa ho, Zpc fa, l1⟩
 clear ho fa
 obtain ⟨r, hr⟩ : ∃ r : Nat, 0 < a.length → r < a.length ∧ (turn.tmod a.length + a.length).tmod a.length = (r : Int) := by
  by_cases h0 : 0 < a.length
  ·obtain ⟨r, h⟩ := Ysm turn h0
   exact ⟨r, fun _ => h⟩
  ·exact ⟨0, fun h => absurd h h0⟩
 have hm : ∀ x, x ∈ Zmw a r a.length ↔ x ∈ a := by
  by_cases h0 : 0 < a.length
  ·exact Ykh (hr h0).1
  ·have : a = [] := List.eq_nil_of_length_eq_zero (by omega)
   subst this
   intro x
   simp [Zmw]
 have hl := Yac a r a.length
 have ob : LOk (Zmw a r a.length) := oa.sub (fun x hx => (hm x).1 hx) (by omega)
 have hm2 : ∀ x, x ∈ a ++ Zmw a r a.length ↔ x ∈ a := fun x => by
  rw [List.mem_append, hm x, or_self]
 have oc : LOk (a ++ Zmw a r a.length) := oa.sub (fun x hx => (hm2 x).1 hx) (by rw [List.length_append]; omega)
 have e1 := Zx0 oc.ok oa.ok oc.n oa.n
 rw [Yag oc.t oa.t (Zs6 oc oa hm2)] at e1
 have e2 := Zx0 oa.ok ob.ok oa.n ob.n
 rw [Yag oa.t ob.t (Zs6 oa ob fun x => (hm x).symm)] at e2
 have e3 := Zwb oc
 have e4 := Zwb oa
 have e5 : decide ((((Zc0 (inT (a ++ Zmw a r a.length))).length : Nat) : Int) = (((Zc0 (inT a)).length : Nat) : Int)) = true := decide_eq_true (by rw [Ygy oc oa hm2])
 have e6 := Ycm ob
 have e7 := Ycm oa
 have kb := Zfx ob.t.w
 have ka := Zfx oa.t.w
 have kb2 := ob.t.k
 have ka2 := oa.t.k
 have e8 := Yob _ _ (Ze0 ob.t.w).oe (Ze0 oa.t.w).oe (by omega) (by omega) (Yca ob oa hm)
 have hcut : ∀ (x y : List PD), List.drop x.length (List.take (x ++ y).length (x ++ y)) = y := fun x y => by
  rw [List.take_of_length_le (Nat.le_refl _), List.drop_append_of_le_length (Nat.le_refl _), List.drop_length, List.nil_append]
 have hst : ∀ {k : Nat} {x : List EV}, a[(k + r) % a.length]? = some x → (a ++ Zmw a r k).map pdP ++ [pdP x] = (a ++ Zmw a r (k + 1)).map pdP := fun {k x} h => by
  rw [Ygm h, ← List.append_assoc, List.map_append (l₁ := a ++ Zmw a r k)]
  rfl
 have hln : ∀ k, ((a ++ Zmw a r k).map pdP).length ≤ a.length + k := fun k => by
  rw [List.length_map, List.length_append]
  have := Yac a r k
  omega
 have h00 : (a ++ Zmw a r 0).map pdP = a.map pdP := by unfold Zmw; simp
 have ga : ∀ {z : Int} {i : Nat} {x : List EV}, z = (i : Int) → a[i]? = some x → (a.map pdP)[z.toNat]? = some (pdP x) := fun hz h => by subst hz; simp [h]
 rw [List.map_append] at e1 e3
 rw [← hcut (a.map pdP) ((Zmw a r a.length).map pdP)] at e2 e6
 have hfin : (a ++ Zmw a r a.length).map pdP = a.map pdP ++ (Zmw a r a.length).map pdP := List.map_append
 generalize hrr : (fun k => (a ++ Zmw a r k).map pdP) = R
 have hR : ∀ k, (a ++ Zmw a r k).map pdP = R k := fun k => by rw [← hrr]
 simp only [hR] at hst hln h00 hfin
 rw [← hfin] at e1 e2 e3 e6
 have hRl : (a.map pdP).length ≤ (R a.length).length := by rw [hfin, List.length_append]; exact Nat.le_add_right _ _
 clear hcut hm hm2 ob oc oa kb ka kb2 ka2 hl hrr hR hfin l1
 generalize (Zef _).map pdP = d1 at *
 generalize (Zef _).map pdP = d2 at *
 generalize ((Zc0 (inT (a ++ Zmw a r a.length))).length : Nat) = w1 at *
 generalize ((Zc0 (inT a)).length : Nat) = w2 at *
 generalize a.map pdP = da at *
 have b1 : (([] : List PD).length + da.length) * 24 ≤ 140737488351232 := Nat.le_trans (Nat.mul_le_mul_right 24 (show ([] : List PD).length + da.length ≤ 1099511627776 by rw [n1]; simp only [List.length_nil]; omega)) (by decide)
 have b2 : ([] : List PD).length + da.length ≤ 140737488351232 := by rw [n1]; simp only [List.length_nil]; omega
 refine Zaa Tryz.func8 rfl Tryz.ntmps8 rfl (fun X => ?_)
 refine wk ?_
 have e0 : ([] : List PD) ++ da = R 0 := by rw [h00]; rfl
 clear b1 b2 g1 h00 c2
 refine Zaq (ι := { k : Nat // k ≤ a.length })
  (fun k => [(0, .dat (.sl 1 24 da)), (1, .dat (.val (.int .i64 turn))), (5, .dat (.val (.int .i64 ((da.length : Nat) : Int)))), (6, .own 400), (20, .dat (.val (.int .i64 ((da.length : Nat) : Int)))), (21, .dat (.val (.int .i64 (k.1 : Nat))))])
  (fun k => [(400, .row 22 1 24 (R k.1))]) (fun k => a.length - k.1) ⟨0, Nat.zero_le _⟩ (fun j => if j = 400 then 18 else j) ?_ ?_
 ·exact sb
 rintro ⟨k, hk⟩
 clear e0
 simp only
 by_cases hlt : k < a.length
 ·have hc : decide ((k : Int) < ((da.length : Nat) : Int)) = true := decide_eq_true (by omega)
  obtain ⟨hr1, hr2⟩ := hr (by omega)
  have hbd := Yhb turn (n := a.length) (by omega)
  obtain ⟨x, hx⟩ : ∃ x, a[(k + r) % a.length]? = some x := ⟨_, List.getElem?_eq_getElem (Nat.mod_lt _ (by omega))⟩
  have i1 := ga (z := (((k + r) % a.length : Nat) : Int)) rfl hx
  have e9 := hst hx
  have hq3 : ((k : Int) + (r : Int)).tmod ((da.length : Nat) : Int) = (((k + r) % a.length : Nat) : Int) := by
   rw [n1, ← Yam (k + r) a.length]
   rfl
  rw [← n1] at hr2 hbd
  generalize hq1 : turn.tmod ((da.length : Nat) : Int) = q1 at *
  have hn0 : ((da.length : Nat) : Int) ≠ 0 := by omega
  have hml : (k + r) % a.length < a.length := Nat.mod_lt _ (by omega)
  have hb := Ytv l0 hk
  have hlk := hln k
  have hb1 : ((R k).length + [pdP x].length) * 24 ≤ 140737488351232 := Nat.le_trans (Nat.mul_le_mul_right 24 (show (R k).length + 1 ≤ a.length + k + 1 by omega)) hb.1
  have hb2 : (R k).length + [pdP x].length ≤ 140737488351232 := Nat.le_trans (show (R k).length + 1 ≤ a.length + k + 1 by omega) hb.2
  clear hb hlk hln hst ga hr e1 e2 e3 e4 e5 e6 e7 e8 hx
  unfold pdP at i1 e9 hb1 hb2
  generalize (((k + r) % a.length : Nat)) = j at *
  refine wk ?_
  refine Yn2 rfl rfl rfl hn0 hq1 (by omega) ?_
  refine wk ?_
  refine Yn2 rfl rfl rfl hn0 hr2 (by omega) ?_
  refine wk ?_
  refine Yn2 rfl rfl rfl hn0 hq3 (by omega) ?_
  refine wk ?_
  refine Zan ?_
  refine ⟨⟨k + 1, by omega⟩, (fun j => if j = 400 then 40 else j), by simp only; omega, ?_⟩
  exact sb
 ·have hc : decide ((k : Int) < ((da.length : Nat) : Int)) = false := decide_eq_false (by omega)
  obtain rfl : k = a.length := by omega
  refine Zbj (fun _ => false) (fun k => k == 400) ?_
  exact wke
end Go.Proofs.YtgmahieoiifpfaaGreat
