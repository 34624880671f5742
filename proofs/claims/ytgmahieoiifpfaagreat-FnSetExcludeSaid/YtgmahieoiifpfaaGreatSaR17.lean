/- Part 17 of what the proof rests on. -/
import Derived.Test.YtgmahieoiifpfaaGreatSaR12
set_option linter.unusedSimpArgs false
set_option linter.unusedVariables false
set_option maxHeartbeats 2000000
namespace Go.Proofs.YtgmahieoiifpfaaGreat
open Go.RowKit
theorem Yc0 (s : List (List EV)) (p : List EV) (hs : SetOk s) (hp : PP OE p) : PCall Tryz.prog 106 [.sl 1 24 (s.map pdP), pdP p] (.val (.bool (Zdn (Zaw (cw Zcn) s) p))) := by
 refine Zay fun hfit => ?_
 have b1 := (hfit (pdP p) (by simp)).sl.2.1
 clear hfit
 have n1 : (p.map pdE).length = p.length := by simp
 have hc := fun n => Zvp s (p.take (n + 1)) hs (Zrb hp n)
 unfold pdP at hc b1 ⊢
 have hm : ∀ n, (p.take (n + 1)).map pdE = List.drop 0 (List.take (n + 1) (p.map pdE)) := fun n => by rw [List.drop_zero, List.map_take]
 simp only [hm] at hc
 generalize p.map pdE = dp at *
 generalize s.map (fun l => PD.sl 11 168 (l.map pdE)) = ds at *
 refine Zaa Tryz.func106 rfl Tryz.ntmps106 rfl (fun X => ?_)
 refine wk ?_
 refine Zap (ι := { k : Nat // k ≤ p.length ∧ ∀ i, i < k → Zaw (cw Zcn) s (p.take (i + 1)) = false })
  (fun k => [(0, .dat (.sl 1 24 ds)), (1, .dat (.sl 11 168 dp)), (5, .dat (.val (.int .i64 ((k.1 + 1 : Nat) : Int))))]) (fun _ => []) (fun k => p.length - k.1) ⟨0, Nat.zero_le _, fun i h => absurd h (Nat.not_lt_zero i)⟩ id ?_ ?_
 ·exact sb
 rintro ⟨k, hk, hall⟩
 by_cases hlt : k < p.length
 ·have g1 : decide (((k + 1 : Nat) : Int) ≤ ((dp.length : Nat) : Int)) = true := decide_eq_true (by omega)
  have c1 := hc k
  clear hc hm
  cases hh : Zaw (cw Zcn) s (p.take (k + 1)) with
  | true =>
   rw [hh] at c1
   rw [Yaj hlt hh]
   exact wke
  | false =>
   rw [hh] at c1
   refine wk ?_
   refine Zae ?_
   refine ⟨⟨k + 1, by omega, fun i hi => ?_⟩, id, by simp only; omega, ?_⟩
   ·by_cases e : i = k
    ·subst e; exact hh
    ·exact hall i (by omega)
   have ez : ((k + 1 : Nat) : Int) + 1 = ((k + 1 + 1 : Nat) : Int) := by omega
   exact sb
 ·have g1 : decide (((k + 1 : Nat) : Int) ≤ ((dp.length : Nat) : Int)) = false := decide_eq_false (by omega)
  rw [Ycg fun i hi => hall i (by omega)]
  exact wke
theorem Zuz (a b : List (List EV)) (ha : SetOk a) (hb : SetOk b) (hn : a.length ≤ 1099511627776) : PCall Tryz.prog 46 [.sl 1 24 (a.map pdP), .sl 1 24 (b.map pdP)] (.sl 1 24 ((a.filter fun p => !Zdn (Zaw (cw Zcn) b) p).map pdP)) := by
 have c1 : ∀ p ∈ a, Zbr Tryz.prog 105 [.dat (pdP p), .ptr 1000 0] [(1000, .box 38 [.dat (.sl 1 24 (b.map pdP))])] (.dat (.val (.bool (!Zdn (Zaw (cw Zcn) b) p)))) [(1000, .box 38 [.dat (.sl 1 24 (b.map pdP))])] := fun p hp => by
  have c0 := Yc0 b p hb (ha.P p hp)
  generalize b.map pdP = db at *
  unfold pdP at c0 ⊢
  generalize p.map pdE = dp at *
  generalize Zdn (Zaw (cw Zcn) b) p = r at *
  refine Zar Tryz.func105 rfl Tryz.ntmps105 rfl (fun X => ?_)
  refine wk ?_
  refine Za0 () id (tm := [(3, .dat (.val (.bool (!r))))]) ?_ (Za6 rfl rfl)
  exact sb
 have c2 := Zmz _ (fun p => !Zdn (Zaw (cw Zcn) b) p) a hn c1
 clear c1
 generalize a.map pdP = da at *
 generalize b.map pdP = db at *
 generalize (a.filter fun p => !Zdn (Zaw (cw Zcn) b) p).map pdP = dr at *
 refine Zaa Tryz.func46 rfl Tryz.ntmps46 rfl (fun X => ?_)
 refine wk ?_
 refine Zb9 (thk [(1000, 3)] 200) rfl (by kernel_rfl) c2 rfl ⟨rfl, trivial⟩ rfl (Zai rfl) rfl ?_
 exact wke
end Go.Proofs.YtgmahieoiifpfaaGreat
