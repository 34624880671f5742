/- Part 18 of what the proof rests on. -/
import Derived.Test.YtgmahieoiifpfaaGreatSbR17
set_option linter.unusedSimpArgs false
set_option linter.unusedVariables false
set_option maxHeartbeats 8000000
set_option maxRecDepth 100000
namespace Go.Proofs.YtgmahieoiifpfaaGreat
open Go.RowKit
theorem Ymp (a b : List (List EV)) (e : EV) : PCall Tryz.prog 13 [.sl 1 24 (a.map pdP), .sl 1 24 (b.map pdP), pdE e] (.val (.bool true)) := by
 refine Zbf fun hfit => ?_
 have fa := hfit (.sl 1 24 (a.map pdP)) (by simp)
 have fb := hfit (.sl 1 24 (b.map pdP)) (by simp)
 have fe := hfit (pdE e) (by simp)
 clear hfit
 have n1 : (a.map pdP).length = a.length := by simp
 have n2 : (b.map pdP).length = b.length := by simp
 obtain ⟨bz, cz⟩ := Yhl e
 by_cases h1 : 2147483647 < a.length
 ·have g1 : decide ((2147483647 : Int) < (((a.map pdP).length : Nat) : Int)) = true := decide_eq_true (by omega)
  clear fa fb fe
  generalize a.map pdP = da at *
  generalize b.map pdP = db at *
  unfold pdE at cz ⊢
  refine Zaa Tryz.func13 rfl Tryz.ntmps13 rfl (fun X => ?_)
  exact wke
 have g1 : decide ((2147483647 : Int) < (((a.map pdP).length : Nat) : Int)) = false := decide_eq_false (by omega)
 by_cases h2 : 2147483647 < b.length
 ·have g2 : decide ((2147483647 : Int) < (((b.map pdP).length : Nat) : Int)) = true := decide_eq_true (by omega)
  clear fa fb fe
  generalize a.map pdP = da at *
  generalize b.map pdP = db at *
  unfold pdE at cz ⊢
  refine Zaa Tryz.func13 rfl Tryz.ntmps13 rfl (fun X => ?_)
  exact wke
 have g2 : decide ((2147483647 : Int) < (((b.map pdP).length : Nat) : Int)) = false := decide_eq_false (by omega)
 have l1 := Yd4 h1
 have l2 := Yd4 h2
 have q1 : a.length ≤ 2147483647 := by omega
 have q2 : b.length ≤ 2147483647 := by omega
 have c1 := Yot a b l1 l2
 have c2 := Zqn (a ++ b)
 have c3 := Zu0 e
 clear h1 h2 n1 n2
 cases bz with
 | false =>
  clear fa fb fe l1 l2 q1 q2 c1 c2 c3
  generalize a.map pdP = da at *
  generalize b.map pdP = db at *
  unfold pdE at cz ⊢
  refine Zaa Tryz.func13 rfl Tryz.ntmps13 rfl (fun X => ?_)
  exact wke
 | true =>
 cases ho : ((a ++ b).all fun p => p.all Zvo) with
 | false =>
  rw [ho] at c2
  clear fa fb fe ho l1 l2 q1 q2
  generalize (a ++ b).map pdP = dd at *
  generalize a.map pdP = da at *
  generalize b.map pdP = db at *
  generalize Zvo e = oe at *
  unfold pdE at cz c3 ⊢
  refine Zaa Tryz.func13 rfl Tryz.ntmps13 rfl (fun X => ?_)
  exact wke
 | true =>
 rw [ho] at c2
 cases hoe : Zvo e with
 | false =>
  rw [hoe] at c3
  clear fa fb fe ho l1 l2 q1 q2 hoe
  generalize (a ++ b).map pdP = dd at *
  generalize a.map pdP = da at *
  generalize b.map pdP = db at *
  unfold pdE at cz c3 ⊢
  refine Zaa Tryz.func13 rfl Tryz.ntmps13 rfl (fun X => ?_)
  exact wke
 | true =>
 rw [hoe] at c3
 obtain ⟨ho1, ho2⟩ := Ykt ho
 have oa : LOk a := ⟨Zsf fa ho1, Zov fa, l1⟩
 have ob : LOk b := ⟨Zsf fb ho2, Zov fb, l2⟩
 have oe := Ybv (Zxb fe) hoe
 have ta := oa.t
 have tb := ob.t
 have Lu := Zkp (Zsz ta tb) (by omega)
 have Li := Zkp (Zru ta tb) l1
 have Ld := Zkp (Zph ta tb) l1
 have Lr := Zkp (Zpm ta tb) l1
 have tx := Zfy ta (Zbg e)
 have ty := Zfy tb (Zbg e)
 have Lx := Zkp tx l1
 have Ly := Zkp ty l2
 have Lxu := Zkp (Zsz (Zb2 tx) (Zb2 ty)) (by omega)
 have Lxi := Zkp (Zru (Zb2 tx) (Zb2 ty)) l1
 have Lxd := Zkp (Zph (Zb2 tx) (Zb2 ty)) l1
 have Lxr := Zkp (Zpm (Zb2 tx) (Zb2 ty)) l1
 have Lwu := Zkp (Zfy (Zb2 (Zsz ta tb)) (Zbg e)) (by omega)
 have Lwi := Zkp (Zfy (Zb2 (Zru ta tb)) (Zbg e)) l1
 have Lwd := Zkp (Zfy (Zb2 (Zph ta tb)) (Zbg e)) l1
 have Lwr := Zkp (Zfy (Zb2 (Zpm ta tb)) (Zbg e)) l1
 have w1 := Zz1 oa e oe
 have w2 := Zz1 ob e oe
 have r1 := Yjs Lx Ly
 have hh := Yko ob e oe
 have u1 := Yjt oa ob
 have u2 := Zz1 Lu e oe
 have u3 := Yjt Lx Ly
 have u4 := Zs5 Lwu Lxu
 rw [Yjq oa ob oe] at u4
 have i1 := Yjr oa ob
 have i2 := Zz1 Li e oe
 have i3 := Yjr Lx Ly
 have i4 := Zs5 Lwi Lxi
 rw [Yjo oa ob oe] at i4
 have d1 := Yol oa ob
 have d2 := Zz1 Ld e oe
 have d3 := Yol Lx Ly
 have d4 := Zs5 Lwd Lxd
 rw [Yn7 oa ob oe] at d4
 have s1 := Yjs oa ob
 have s2 := Zz1 Lr e oe
 have s4 := Zs5 Lwr Lxr
 have s5 := Zhi (Zs5 Lwr Yr1)
 cases hb : Zcn Zae (inT b) [Zbg e] with
 | false =>
  rw [Yjp oa ob oe hb] at s4
  rw [hb] at hh
  clear s5 hb Lu Li Ld Lr tx ty Lx Ly Lxu Lxi Lxd Lxr Lwu Lwi Lwd Lwr ta tb oa ob oe ho1 ho2 hoe ho fa fb fe l1 l2 q1 q2
  generalize (Zbw (wpT (inT (Zbw (uT (inT a) (inT b)))) (Zbg e))).map pdP = e1 at *
  generalize (Zbw (wpT (inT (Zbw (iT (inT a) (inT b)))) (Zbg e))).map pdP = e2 at *
  generalize (Zbw (wpT (inT (Zbw (dT (inT a) (inT b)))) (Zbg e))).map pdP = e3 at *
  generalize (Zbw (wpT (inT (Zbw (rT (inT a) (inT b)))) (Zbg e))).map pdP = e4 at *
  generalize (Zbw (uT (inT (Zbw (wpT (inT a) (Zbg e)))) (inT (Zbw (wpT (inT b) (Zbg e)))))).map pdP = e5 at *
  generalize (Zbw (iT (inT (Zbw (wpT (inT a) (Zbg e)))) (inT (Zbw (wpT (inT b) (Zbg e)))))).map pdP = e6 at *
  generalize (Zbw (dT (inT (Zbw (wpT (inT a) (Zbg e)))) (inT (Zbw (wpT (inT b) (Zbg e)))))).map pdP = e7 at *
  generalize (Zbw (rT (inT (Zbw (wpT (inT a) (Zbg e)))) (inT (Zbw (wpT (inT b) (Zbg e)))))).map pdP = e8 at *
  generalize (Zbw (wpT (inT a) (Zbg e))).map pdP = e9 at *
  generalize (Zbw (wpT (inT b) (Zbg e))).map pdP = e10 at *
  generalize (Zbw (uT (inT a) (inT b))).map pdP = e11 at *
  generalize (Zbw (iT (inT a) (inT b))).map pdP = e12 at *
  generalize (Zbw (dT (inT a) (inT b))).map pdP = e13 at *
  generalize (Zbw (rT (inT a) (inT b))).map pdP = e14 at *
  generalize (a ++ b).map pdP = dd at *
  generalize a.map pdP = da at *
  generalize b.map pdP = db at *
  unfold pdE at cz c3 w1 w2 hh u2 i2 d2 s2 ⊢
  refine Zaa Tryz.func13 rfl Tryz.ntmps13 rfl (fun X => ?_)
  exact wke
 | true =>
  rw [Yn8 oa ob oe hb] at s5
  rw [hb] at hh
  clear s4 hb Lu Li Ld Lr tx ty Lx Ly Lxu Lxi Lxd Lxr Lwu Lwi Lwd Lwr ta tb oa ob oe ho1 ho2 hoe ho fa fb fe l1 l2 q1 q2
  generalize (Zbw (wpT (inT (Zbw (uT (inT a) (inT b)))) (Zbg e))).map pdP = e1 at *
  generalize (Zbw (wpT (inT (Zbw (iT (inT a) (inT b)))) (Zbg e))).map pdP = e2 at *
  generalize (Zbw (wpT (inT (Zbw (dT (inT a) (inT b)))) (Zbg e))).map pdP = e3 at *
  generalize (Zbw (wpT (inT (Zbw (rT (inT a) (inT b)))) (Zbg e))).map pdP = e4 at *
  generalize (Zbw (uT (inT (Zbw (wpT (inT a) (Zbg e)))) (inT (Zbw (wpT (inT b) (Zbg e)))))).map pdP = e5 at *
  generalize (Zbw (iT (inT (Zbw (wpT (inT a) (Zbg e)))) (inT (Zbw (wpT (inT b) (Zbg e)))))).map pdP = e6 at *
  generalize (Zbw (dT (inT (Zbw (wpT (inT a) (Zbg e)))) (inT (Zbw (wpT (inT b) (Zbg e)))))).map pdP = e7 at *
  generalize (Zbw (rT (inT (Zbw (wpT (inT a) (Zbg e)))) (inT (Zbw (wpT (inT b) (Zbg e)))))).map pdP = e8 at *
  generalize (Zbw (wpT (inT a) (Zbg e))).map pdP = e9 at *
  generalize (Zbw (wpT (inT b) (Zbg e))).map pdP = e10 at *
  generalize (Zbw (uT (inT a) (inT b))).map pdP = e11 at *
  generalize (Zbw (iT (inT a) (inT b))).map pdP = e12 at *
  generalize (Zbw (dT (inT a) (inT b))).map pdP = e13 at *
  generalize (Zbw (rT (inT a) (inT b))).map pdP = e14 at *
  generalize (a ++ b).map pdP = dd at *
  generalize a.map pdP = da at *
  generalize b.map pdP = db at *
  unfold pdE at cz c3 w1 w2 hh u2 i2 d2 s2 ⊢
  refine Zaa Tryz.func13 rfl Tryz.ntmps13 rfl (fun X => ?_)
  exact wke
end Go.Proofs.YtgmahieoiifpfaaGreat
