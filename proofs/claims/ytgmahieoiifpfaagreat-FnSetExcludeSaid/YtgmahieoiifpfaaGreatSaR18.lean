/- Part 18 of what the proof rests on. -/
import Derived.Test.YtgmahieoiifpfaaGreatSaR16
import Derived.Test.YtgmahieoiifpfaaGreatSaR17
set_option linter.unusedSimpArgs false
set_option linter.unusedVariables false
set_option maxHeartbeats 2000000
namespace Go.Proofs.YtgmahieoiifpfaaGreat
open Go.RowKit
theorem Yny (a b : List (List EV)) : PCall Tryz.prog 9 [.sl 1 24 (a.map pdP), .sl 1 24 (b.map pdP)] (.val (.bool true)) := by
 refine Zay fun hfit => ?_
 have fa := hfit (.sl 1 24 (a.map pdP)) (by simp)
 have fb := hfit (.sl 1 24 (b.map pdP)) (by simp)
 clear hfit
 have n1 : (a.map pdP).length = a.length := by simp
 have n2 : (b.map pdP).length = b.length := by simp
 by_cases h1 : 2147483647 < a.length
 ·have g1 : decide ((2147483647 : Int) < (((a.map pdP).length : Nat) : Int)) = true := decide_eq_true (by omega)
  clear fa fb
  generalize a.map pdP = da at *
  generalize b.map pdP = db at *
  refine Zaa Tryz.func9 rfl Tryz.ntmps9 rfl (fun X => ?_)
  exact wke
 have g1 : decide ((2147483647 : Int) < (((a.map pdP).length : Nat) : Int)) = false := decide_eq_false (by omega)
 by_cases h2 : 2147483647 < b.length
 ·have g2 : decide ((2147483647 : Int) < (((b.map pdP).length : Nat) : Int)) = true := decide_eq_true (by omega)
  clear fa fb
  generalize a.map pdP = da at *
  generalize b.map pdP = db at *
  refine Zaa Tryz.func9 rfl Tryz.ntmps9 rfl (fun X => ?_)
  exact wke
 have g2 : decide ((2147483647 : Int) < (((b.map pdP).length : Nat) : Int)) = false := decide_eq_false (by omega)
 have l1 := Zzc h1
 have l2 := Zzc h2
 have c1 := Yks a b l1 l2
 have c2 := Zqs (a ++ b)
 clear h1 h2 n1 n2
 cases ho : ((a ++ b).all fun p => p.all Zzt) with
 | false =>
  rw [ho] at c2
  clear fa fb ho l1 l2
  generalize (a ++ b).map pdP = dd at *
  generalize a.map pdP = da at *
  generalize b.map pdP = db at *
  refine Zaa Tryz.func9 rfl Tryz.ntmps9 rfl (fun X => ?_)
  exact wke
 | true =>
  rw [ho] at c2
  obtain ⟨ho1, ho2⟩ := Yce ho
  have oa : PsOk a := Znj fa ho1
  have ob : PsOk b := Znj fb ho2
  have pa := Zk1 fa
  have pb := Zk1 fb
  have hw := Yid oa ob pa pb
  have ta := Zge oa pa (Nat.le_refl _)
  have tb := Zge ob pb (Nat.le_refl _)
  have tr := Yfw ta tb
  have sa := Zde (PsOk.oe oa)
  have sb' := Zde (PsOk.oe ob)
  have lsa := Zlb a a.length
  rw [List.take_length] at lsa
  have c3 := Ylq oa ob pa pb l1 l2
  have c4 := Zma a l1 (PsOk.oe oa)
  have c5 := Zma b l2 (PsOk.oe ob)
  have c6 := Zuz (Zbj a) (Zbj b) sa sb' (by omega)
  have lg := tr.k
  rw [← Zrx tr.w] at lg
  have c7 := Yen _ _ (Zqd tr.w).oe (Zkh sa fun p => !Zdn (Zaw (cw Zcn) (Zbj b)) p).oe (by omega) (by rw [← hw.1]; omega) hw
  have c8 := Yhf oa ob pa pb l1 l2
  have c9 := Yhd (Yds tr.w) (Yds tr.w) (by omega) (by omega)
  rw [Ym1 (Ytg tr)] at c9
  clear hw ta tb tr sa sb' lsa lg pa pb oa ob ho1 ho2 ho fa fb l1 l2
  generalize (Zlf _).map pdP = d1 at *
  generalize ((Zbj a).filter _).map pdP = d2 at *
  generalize (Zbj a).map pdP = d3 at *
  generalize (Zbj b).map pdP = d4 at *
  generalize (a ++ b).map pdP = d5 at *
  generalize a.map pdP = d6 at *
  generalize b.map pdP = d7 at *
  refine Zaa Tryz.func9 rfl Tryz.ntmps9 rfl (fun X => ?_)
  exact wke
end Go.Proofs.YtgmahieoiifpfaaGreat
