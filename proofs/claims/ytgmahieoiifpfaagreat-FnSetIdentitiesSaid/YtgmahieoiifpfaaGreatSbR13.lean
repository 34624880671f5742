/- Part 13 of what the proof rests on. -/
import Derived.Test.YtgmahieoiifpfaaGreatSbR12
set_option linter.unusedSimpArgs false
set_option linter.unusedVariables false
set_option maxHeartbeats 4000000
namespace Go.Proofs.YtgmahieoiifpfaaGreat
open Go.RowKit
theorem Ymo (a : List (List EV)) : PCall Tryz.prog 12 [.sl 1 24 (a.map pdP)] (.val (.bool true)) := by
 refine Zbf fun hfit => ?_
 have fa := hfit (.sl 1 24 (a.map pdP)) (by simp)
 clear hfit
 have n1 : (a.map pdP).length = a.length := by simp
 by_cases h1 : 2147483647 < a.length
 ·have g1 : decide ((2147483647 : Int) < (((a.map pdP).length : Nat) : Int)) = true := decide_eq_true (by omega)
  clear fa
  generalize a.map pdP = da at *
  refine Zaa Tryz.func12 rfl Tryz.ntmps12 rfl (fun X => ?_)
  exact wke
 have g1 : decide ((2147483647 : Int) < (((a.map pdP).length : Nat) : Int)) = false := decide_eq_false (by omega)
 have l1 := Yd4 h1
 have l0 : a.length ≤ 2147483647 := by omega
 have c2 := Zqn a
 clear h1 n1
 cases ho : (a.all fun p => p.all Zvo) with
 | false =>
  rw [ho] at c2
  clear fa ho l1
  generalize a.map pdP = da at *
  refine Zaa Tryz.func12 rfl Tryz.ntmps12 rfl (fun X => ?_)
  exact wke
 | true =>
  rw [ho] at c2
  have oa : PsOk a := Zsf fa ho
  have pa := Zov fa
  have ta := Zh4 oa pa (Nat.le_refl _)
  have ln : ([] : List (List EV)).length ≤ 549755813888 := Nat.zero_le _
  have kk : ∀ {s : ST PEV} {n : Nat}, TOk s n → n ≤ 549755813888 → (Zbw s).length ≤ 549755813888 := fun h hn => by rw [Zrq h.w]; have := h.k; omega
  have u1 := Zsz ta ta
  have u2 := Zru ta ta
  have u3 := Zph ta ta
  have u4 := Zpm ta ta
  have u5 := Zsz ta Zoj
  have u6 := Zph ta Zoj
  have u7 := Zpm ta Zoj
  have u8 := Zru ta Zoj
  have u9 := Zph Zoj ta
  have k1 := kk u1 (by omega)
  have k2 := kk u2 l1
  have k3 := kk u3 l1
  have k4 := kk u4 l1
  have k5 := kk u5 (by omega)
  have k6 := kk u6 l1
  have k7 := kk u7 l1
  have k8 := kk u8 l1
  have k9 := kk u9 (by omega)
  have a1 := Zq7 oa oa pa pa l1 l1
  have a2 := Zq5 oa oa pa pa l1 l1
  have a3 := Zq4 oa oa pa pa l1 l1
  have a4 := Zq6 oa oa pa pa l1 l1
  have a5 := Zhi (Zq7 oa Zk0 pa Zjz l1 ln)
  have a6 := Zhi (Zq4 oa Zk0 pa Zjz l1 ln)
  have a7 := Zhi (Zq6 oa Zk0 pa Zjz l1 ln)
  have a8 := Zhi (Zq5 oa Zk0 pa Zjz l1 ln)
  have a9 := Yay (Zq4 Zk0 oa Zjz pa ln l1)
  have e1 := Ziw (Zh3 u1.w) oa k1 l1
  have e2 := Ziw (Zh3 u2.w) oa k2 l1
  have e3 := Zmt (Zh3 u3.w) k3
  have e4 := Zmt (Zh3 u4.w) k4
  have e5 := Ziw (Zh3 u5.w) oa k5 l1
  have e6 := Ziw (Zh3 u6.w) oa k6 l1
  have e7 := Ziw (Zh3 u7.w) oa k7 l1
  have e8 := Zmt (Zh3 u8.w) k8
  have e9 := Zmt (Zh3 u9.w) k9
  rw [Yc0 u1 ta fun q q' hb hq => by rw [Zvg ta ta (hb.pp hq), Bool.or_self]] at e1
  rw [Yc0 u2 ta fun q q' hb hq => by rw [Zt3 ta ta (hb.pp hq), Bool.and_self]] at e2
  rw [Yhb u3 fun q q' hb hq => by rw [Zpy ta ta (hb.pp hq), Bool.and_not_self]] at e3
  rw [Yhb u4 fun q q' hb hq => by
   rw [Zqs ta ta (hb.pp hq)]
   cases hh : Zcn Zae (inT a) q' with
   | false => rfl
   | true => rw [Yg0 (hb.ne hq) hh]; rfl] at e4
  rw [Yc0 u5 ta fun q q' hb hq => by rw [Zvg ta Zoj (hb.pp hq), Zok hb hq, Bool.or_false]] at e5
  rw [Yc0 u6 ta fun q q' hb hq => by rw [Zpy ta Zoj (hb.pp hq), Zok hb hq, Bool.not_false, Bool.and_true]] at e6
  rw [Yc0 u7 ta fun q q' hb hq => by rw [Zqs ta Zoj (hb.pp hq), Ymv hb hq, Bool.not_false, Bool.and_true]] at e7
  rw [Yhb u8 fun q q' hb hq => by rw [Zt3 ta Zoj (hb.pp hq), Zok hb hq, Bool.and_false]] at e8
  rw [Yhb u9 fun q q' hb hq => by rw [Zpy Zoj ta (hb.pp hq), Zok hb hq, Bool.false_and]] at e9
  clear u1 u2 u3 u4 u5 u6 u7 u8 u9 k1 k2 k3 k4 k5 k6 k7 k8 k9 kk ln ta pa oa ho fa l1 l0
  generalize (Zbw (uT (inT a) (inT a))).map pdP = d1 at *
  generalize (Zbw (iT (inT a) (inT a))).map pdP = d2 at *
  generalize (Zbw (dT (inT a) (inT a))).map pdP = d3 at *
  generalize (Zbw (rT (inT a) (inT a))).map pdP = d4 at *
  generalize (Zbw (uT (inT a) (inT []))).map pdP = d5 at *
  generalize (Zbw (dT (inT a) (inT []))).map pdP = d6 at *
  generalize (Zbw (rT (inT a) (inT []))).map pdP = d7 at *
  generalize (Zbw (iT (inT a) (inT []))).map pdP = d8 at *
  generalize (Zbw (dT (inT []) (inT a))).map pdP = d9 at *
  generalize a.map pdP = d0 at *
  refine Zaa Tryz.func12 rfl Tryz.ntmps12 rfl (fun X => ?_)
  exact wke
end Go.Proofs.YtgmahieoiifpfaaGreat
