/- Part 20 of what the proof rests on. -/
import Derived.Test.YtgmahieoiifpfaaGreatScR9
import Derived.Test.YtgmahieoiifpfaaGreatScR19
set_option linter.unusedSimpArgs false
set_option linter.unusedVariables false
set_option maxHeartbeats 16000000
set_option maxRecDepth 100000
namespace Go.Proofs.YtgmahieoiifpfaaGreat
open Go.RowKit
def Zgu (ps : List (List EV)) : Bool := (ps.all fun p => decide (p.length ≤ 8)) && (decide (ps.length ≤ 60) && ps.all fun p => p.all Zjx)
theorem Yg3 (ps : List (List EV)) : PCall Tryz.prog 36 [.sl 1 24 (ps.map pdP)] (.val (.bool (Zgu ps))) := by
 refine Zay fun hfit => ?_
 have b1 := (hfit (.sl 1 24 (ps.map pdP)) (by simp)).sl.2.1
 clear hfit
 have c1 := Zq0 ps
 unfold Zgu
 have n1 : (ps.map pdP).length = ps.length := by simp
 have ga : ∀ {i : Nat} {x : List EV}, ps[i]? = some x → (ps.map pdP)[((i : Nat) : Int).toNat]? = some (pdP x) := fun h => by simp [h]
 generalize ps.map pdP = da at *
 generalize (ps.all fun p => p.all Zjx) = op at *
 refine Zaa Tryz.func36 rfl Tryz.ntmps36 rfl (fun X => ?_)
 refine wk ?_
 refine Zaq (ι := { k : Nat // k ≤ ps.length ∧ ∀ (i : Nat) (x : List EV), i < k → ps[i]? = some x → x.length ≤ 8 })
  (fun k => [(0, .dat (.sl 1 24 da)), (5, .dat (.sl 1 24 da)), (6, .dat (.val (.int .i64 ((da.length : Nat) : Int)))), (7, .dat (.val (.int .i64 (k.1 : Nat))))]) (fun _ => []) (fun k => ps.length - k.1) ⟨0, Nat.zero_le _, fun i _ h => absurd h (Nat.not_lt_zero i)⟩ id ?_ ?_
 ·exact sb
 rintro ⟨k, hk, hall⟩
 by_cases hlt : k < ps.length
 ·have hc : decide ((k : Int) < ((da.length : Nat) : Int)) = true := decide_eq_true (by omega)
  obtain ⟨p, hp⟩ : ∃ p, ps[k]? = some p := ⟨_, List.getElem?_eq_getElem hlt⟩
  have i1 := ga hp
  have n2 : (p.map pdE).length = p.length := by simp
  unfold pdP at i1
  by_cases h8 : 8 < p.length
  ·have g1 : decide ((8 : Int) < (((p.map pdE).length : Nat) : Int)) = true := decide_eq_true (by omega)
   have e : (ps.all fun p => decide (p.length ≤ 8)) = false := List.all_eq_false.2 ⟨p, List.mem_of_getElem? hp, by simp; omega⟩
   rw [e, Bool.false_and]
   exact wke
  ·have g1 : decide ((8 : Int) < (((p.map pdE).length : Nat) : Int)) = false := decide_eq_false (by omega)
   refine wk ?_
   refine Zan ?_
   refine ⟨⟨k + 1, by omega, fun i x hi hx => ?_⟩, id, by simp only; omega, ?_⟩
   ·by_cases e : i = k
    ·subst e
     rw [hp] at hx; cases hx
     omega
    ·exact hall i x (by omega) hx
   exact sb
 ·have hc : decide ((k : Int) < ((da.length : Nat) : Int)) = false := decide_eq_false (by omega)
  have e : (ps.all fun p => decide (p.length ≤ 8)) = true := List.all_eq_true.2 fun p hp => by
   obtain ⟨i, hi, rfl⟩ := List.getElem_of_mem hp
   have := hall i _ (by omega) (List.getElem?_eq_getElem hi)
   simpa using this
  rw [e, Bool.true_and]
  by_cases h60 : ps.length ≤ 60
  ·have g1 : decide (((da.length : Nat) : Int) ≤ 60) = true := decide_eq_true (by omega)
   rw [decide_eq_true h60, Bool.true_and]
   exact wke
  ·have g1 : decide (((da.length : Nat) : Int) ≤ 60) = false := decide_eq_false (by omega)
   rw [decide_eq_false h60, Bool.false_and]
   exact wke
theorem Yai {ps : List (List EV)} (h : Zgu ps = true) : (∀ p ∈ ps, p.length ≤ 8) ∧ ps.length ≤ 60 ∧ (ps.all fun p => p.all Zjx) = true := by
 unfold Zgu at h
 simp only [Bool.and_eq_true, List.all_eq_true, decide_eq_true_eq] at h
 exact ⟨h.1, h.2.1, List.all_eq_true.2 fun p hp => List.all_eq_true.2 (h.2.2 p hp)⟩
theorem Yn6 (a : List (List EV)) (e : EV) (m : List (List EV)) (o : EV) : PCall Tryz.prog 7 [.sl 1 24 (a.map pdP), pdE e, .sl 1 24 (m.map pdP), pdE o] (.val (.bool true)) := by
 refine Zay fun hfit => ?_
 have fa := hfit (.sl 1 24 (a.map pdP)) (by simp)
 have fm := hfit (.sl 1 24 (m.map pdP)) (by simp)
 have fe := hfit (pdE e) (by simp)
 have fo := hfit (pdE o) (by simp)
 clear hfit
 have n1 : (a.map pdP).length = a.length := by simp
 have n2 : (m.map pdP).length = m.length := by simp
 obtain ⟨b1, z1⟩ := Zy8 e
 obtain ⟨b2, z2⟩ := Zy8 o
 have y1 := Yg3 a
 have y2 := Yg3 m
 have y3 := Zo8 e
 have y4 := Zo8 o
 by_cases h1 : 2147483647 < a.length
 ·have g1 : decide ((2147483647 : Int) < (((a.map pdP).length : Nat) : Int)) = true := decide_eq_true (by omega)
  clear fa fm fe fo
  generalize a.map pdP = da at *
  generalize m.map pdP = dm at *
  generalize Zgu a = sa at *
  generalize Zgu m = sm at *
  generalize Zjx e = oe at *
  generalize Zjx o = oo at *
  unfold pdE at z1 z2 y3 y4 ⊢
  refine Zaa Tryz.func7 rfl Tryz.ntmps7 rfl (fun X => ?_)
  exact wke
 have g1 : decide ((2147483647 : Int) < (((a.map pdP).length : Nat) : Int)) = false := decide_eq_false (by omega)
 cases b1 with
 | false =>
  clear fa fm fe fo
  generalize a.map pdP = da at *
  generalize m.map pdP = dm at *
  generalize Zgu a = sa at *
  generalize Zgu m = sm at *
  generalize Zjx e = oe at *
  generalize Zjx o = oo at *
  unfold pdE at z1 z2 y3 y4 ⊢
  refine Zaa Tryz.func7 rfl Tryz.ntmps7 rfl (fun X => ?_)
  exact wke
 | true =>
 by_cases h2 : 2147483647 < m.length
 ·have g2 : decide ((2147483647 : Int) < (((m.map pdP).length : Nat) : Int)) = true := decide_eq_true (by omega)
  clear fa fm fe fo
  generalize a.map pdP = da at *
  generalize m.map pdP = dm at *
  generalize Zgu a = sa at *
  generalize Zgu m = sm at *
  generalize Zjx e = oe at *
  generalize Zjx o = oo at *
  unfold pdE at z1 z2 y3 y4 ⊢
  refine Zaa Tryz.func7 rfl Tryz.ntmps7 rfl (fun X => ?_)
  exact wke
 have g2 : decide ((2147483647 : Int) < (((m.map pdP).length : Nat) : Int)) = false := decide_eq_false (by omega)
 clear h1 h2 n1 n2
 cases b2 with
 | false =>
  clear fa fm fe fo
  generalize a.map pdP = da at *
  generalize m.map pdP = dm at *
  generalize Zgu a = sa at *
  generalize Zgu m = sm at *
  generalize Zjx e = oe at *
  generalize Zjx o = oo at *
  unfold pdE at z1 z2 y3 y4 ⊢
  refine Zaa Tryz.func7 rfl Tryz.ntmps7 rfl (fun X => ?_)
  exact wke
 | true =>
 cases w1 : Zgu a with
 | false =>
  rw [w1] at y1
  clear fa fm fe fo w1
  generalize a.map pdP = da at *
  generalize m.map pdP = dm at *
  generalize Zgu m = sm at *
  generalize Zjx e = oe at *
  generalize Zjx o = oo at *
  unfold pdE at z1 z2 y3 y4 ⊢
  refine Zaa Tryz.func7 rfl Tryz.ntmps7 rfl (fun X => ?_)
  exact wke
 | true =>
 rw [w1] at y1
 cases w2 : Zgu m with
 | false =>
  rw [w2] at y2
  clear fa fm fe fo w1 w2
  generalize a.map pdP = da at *
  generalize m.map pdP = dm at *
  generalize Zjx e = oe at *
  generalize Zjx o = oo at *
  unfold pdE at z1 z2 y3 y4 ⊢
  refine Zaa Tryz.func7 rfl Tryz.ntmps7 rfl (fun X => ?_)
  exact wke
 | true =>
 rw [w2] at y2
 cases w3 : Zjx e with
 | false =>
  rw [w3] at y3
  clear fa fm fe fo w1 w2 w3
  generalize a.map pdP = da at *
  generalize m.map pdP = dm at *
  generalize Zjx o = oo at *
  unfold pdE at z1 z2 y3 y4 ⊢
  refine Zaa Tryz.func7 rfl Tryz.ntmps7 rfl (fun X => ?_)
  exact wke
 | true =>
 rw [w3] at y3
 cases w4 : Zjx o with
 | false =>
  rw [w4] at y4
  clear fa fm fe fo w1 w2 w3 w4
  generalize a.map pdP = da at *
  generalize m.map pdP = dm at *
  unfold pdE at z1 z2 y3 y4 ⊢
  refine Zaa Tryz.func7 rfl Tryz.ntmps7 rfl (fun X => ?_)
  exact wke
 | true =>
 rw [w4] at y4
 obtain ⟨pa, la, oa'⟩ := Yai w1
 obtain ⟨pm, lm, om'⟩ := Yai w2
 have oa : LOk a := ⟨Zsw fa oa', Zpc fa, by omega⟩
 have om : LOk m := ⟨Zsw fm om', Zpc fm, by omega⟩
 have oe := Zwe (Zrk fe) w3
 have oo := Zwe (Zrk fo) w4
 have re : PR (Zaz e) := ⟨oe, Zwc fe, e, rfl⟩
 have ro : PR (Zaz o) := ⟨oo, Zwc fo, o, rfl⟩
 have hT := Ytr oa om re la lm pa pm
 have LB := Ylk hT
 have tx := Ztg oa.t (Zaz e)
 have ty := Ztg oa.t (Zaz o)
 have sx := Ztg LB.t (Zaz e)
 have sy := Ztg LB.t (Zaz o)
 have Lx := Yea tx (by omega)
 have Ly := Yea ty (by omega)
 have Lsx := Yea sx LB.n
 have Lsy := Yea sy LB.n
 have Lu := Yea (Yhf Lx.t om.t) (by have := Lx.n; rw [Zfx tx.w] at this; have := tx.k; have h := Zfx tx.w; omega)
 have c1 := Yhu oa om e oe la lm hT
 have c2 := Yhw LB e oe
 have c3 := Yhw oa e oe
 have c4 := Yp2 Lx om
 have c5 := Zr3 _ _ (Ze0 sx.w).oe (Ze0 (Yhf Lx.t om.t).w).oe Lsx.n Lu.n
 rw [Zn0 (Ze0 sx.w).oe (Ze0 (Yhf Lx.t om.t).w).oe fun q hq => by
  obtain ⟨q', hb⟩ := Ztp q hq.2
  have hp : Br (e :: q) (Zaz e :: q') := ⟨⟨e, oe, LikeE.refl e, rfl⟩, hb⟩
  have hn := hb.ne hq.1
  rw [Zez sx.w hb hq.1, Yhl _ _ hn, Zsz hT hp (by simp), Ys3 oa om re hb hq.1 re (ordPE.self oe), Zez (Yhf Lx.t om.t).w hb hq.1, Yl1 Lx.t om.t (hb.pp hq.1), Yrz tx hb hq.1]] at c5
 have c6 := Zmn _ LB.ok LB.n
 have c7 := Zmn _ oa.ok oa.n
 have c8 := Zr2 ((inT (Zef (bwT (inT a) (Zaz e) (m.map (·.map Zaz))))).m.map Zei) ((inT a).m.map Zei)
 rw [Yrk (WFT_iff.1 LB.t.w).1 (WFT_iff.1 oa.t.w).1 (Zj0 Yj8 _ _ (fun x hx => ((WFT_iff.1 LB.t.w).1 x hx).z) (fun x hx => ((WFT_iff.1 oa.t.w).1 x hx).z) (WFT_iff.1 LB.t.w).2.1 (WFT_iff.1 oa.t.w).2.1 fun x hx => by
  obtain ⟨z, hz, rfl⟩ := hx
  have hb : Br [z] [Zaz z] := ⟨⟨z, hz, LikeE.refl z, rfl⟩, trivial⟩
  have h1 := Zsz hT hb (by simp)
  rw [Ze1, Ze1] at h1
  rw [h1]
  rfl)] at c8
 have e6 : ((ofP Zaf ((Zef (bwT (inT a) (Zaz e) (m.map (·.map Zaz)))).map (·.map Zaz))).m.map fun p => pdE (Zei p)) = ((inT (Zef (bwT (inT a) (Zaz e) (m.map (·.map Zaz))))).m.map Zei).map pdE := by rw [List.map_map]; rfl
 have e7 : ((ofP Zaf (a.map (·.map Zaz))).m.map fun p => pdE (Zei p)) = ((inT a).m.map Zei).map pdE := by rw [List.map_map]; rfl
 rw [e6] at c6
 rw [e7] at c7
 clear e6 e7
 have c9 := Zxp m om.n (PsOk.oe om.ok)
 have c10 := Zwb LB
 have hfd := Yc1 oa om re
 have k1 : (Zc0 (inT m)).length ≤ (Zc0 (fdT (wpT (inT a) (Zaz e)) (m.map (·.map Zaz)))).length := Ypo Yj8 (Zf3 (fun _ h => h.z) _ om.t.w) (Zf3 (fun _ h => h.z) _ hfd.1) fun q' hq' hh => by
  obtain ⟨q, hb, hl⟩ := Yhy q' hq'.2
  rw [hfd.2.2 q q' hb fun e => hq'.1 (List.eq_nil_of_length_eq_zero (by rw [← hl, e]; rfl)), hh, Bool.or_true]
 have k2 : (Zc0 (fdT (wpT (inT a) (Zaz e)) (m.map (·.map Zaz)))).length ≤ (Zc0 (bwT (inT a) (Zaz e) (m.map (·.map Zaz)))).length := by
  have hg := Zr9 Zvi (fdT (wpT (inT a) (Zaz e)) (m.map (·.map Zaz))) (fun y hy => (Zfp oa.t.w hy).1) re re
  rw [if_pos (ordPE.self oe)] at hg
  obtain ⟨k, hk, _⟩ := Ziq hg
  have := Zpt hk
  rw [Zj2 (bwT _ _ _), List.length_append]
  show _ ≤ _ + (Zba (Zgz Zaf _ _ _)).length
  simp only at this
  omega
 have n3 : ((Zb1 m).map pdP).length = (Zb1 m).length := by simp
 have g3 : decide ((((Zc0 (inT (Zef (bwT (inT a) (Zaz e) (m.map (·.map Zaz)))))).length : Nat) : Int) < ((((Zb1 m).map pdP).length : Nat) : Int)) = false := decide_eq_false (by
  rw [n3, Ycb om, Ykc hT]; omega)
 clear n3 k1 k2 hfd
 have c11 := Zt7 e o
 have c12 := Yhw LB o oo
 have c13 := Yhw oa o oo
 have c14 := Zr3 _ _ (Ze0 sy.w).oe (Ze0 ty.w).oe Lsy.n Ly.n
 cases he : eqE e o with
 | true =>
  rw [he] at c11
  clear c14
  clear he sx sy tx ty Lx Ly Lsx Lsy Lu LB hT re ro oe oo oa om oa' om' pa pm la lm fa fm fe fo w1 w2 w3 w4
  unfold pdP at c8
  generalize ((Zc0 (inT (Zef (bwT (inT a) (Zaz e) (m.map (·.map Zaz)))))).length : Nat) = ws at *
  generalize ((inT (Zef (bwT (inT a) (Zaz e) (m.map (·.map Zaz))))).m.map Zei).map pdE = dM1 at *
  generalize ((inT a).m.map Zei).map pdE = dM2 at *
  generalize (Zef (wpT (inT (Zef (bwT (inT a) (Zaz e) (m.map (·.map Zaz))))) (Zaz e))).map pdP = dw1 at *
  generalize (Zef (wpT (inT (Zef (bwT (inT a) (Zaz e) (m.map (·.map Zaz))))) (Zaz o))).map pdP = dw2 at *
  generalize (Zef (uT (inT (Zef (wpT (inT a) (Zaz e)))) (inT m))).map pdP = du at *
  generalize (Zef (wpT (inT a) (Zaz e))).map pdP = dw3 at *
  generalize (Zef (wpT (inT a) (Zaz o))).map pdP = dw4 at *
  generalize (Zef (bwT (inT a) (Zaz e) (m.map (·.map Zaz)))).map pdP = dB at *
  generalize (Zb1 m).map pdP = dso at *
  generalize a.map pdP = da at *
  generalize m.map pdP = dm at *
  unfold pdE at z1 z2 y3 y4 c1 c2 c3 c11 c12 c13 ⊢
  refine Zaa Tryz.func7 rfl Tryz.ntmps7 rfl (fun X => ?_)
  exact wke
 | false =>
  rw [he] at c11
  rw [Zn0 (Ze0 sy.w).oe (Ze0 ty.w).oe fun q hq => by
   obtain ⟨q', hb⟩ := Ztp q hq.2
   have hp : Br (o :: q) (Zaz o :: q') := ⟨⟨o, oo, LikeE.refl o, rfl⟩, hb⟩
   have hn := hb.ne hq.1
   rw [Zez sy.w hb hq.1, Yhl _ _ hn, Zsz hT hp (by simp), Yqb oa om re hn ro (fun hz => by
    rw [Zg4 oe.j oo.j, ← Ydv (OE.raw oe) (OE.raw oo)] at hz
    rw [hz] at he; cases he), Zez ty.w hb hq.1, Yhl _ _ hn]] at c14
  clear he sx sy tx ty Lx Ly Lsx Lsy Lu LB hT re ro oe oo oa om oa' om' pa pm la lm fa fm fe fo w1 w2 w3 w4
  unfold pdP at c8
  generalize ((Zc0 (inT (Zef (bwT (inT a) (Zaz e) (m.map (·.map Zaz)))))).length : Nat) = ws at *
  generalize ((inT (Zef (bwT (inT a) (Zaz e) (m.map (·.map Zaz))))).m.map Zei).map pdE = dM1 at *
  generalize ((inT a).m.map Zei).map pdE = dM2 at *
  generalize (Zef (wpT (inT (Zef (bwT (inT a) (Zaz e) (m.map (·.map Zaz))))) (Zaz e))).map pdP = dw1 at *
  generalize (Zef (wpT (inT (Zef (bwT (inT a) (Zaz e) (m.map (·.map Zaz))))) (Zaz o))).map pdP = dw2 at *
  generalize (Zef (uT (inT (Zef (wpT (inT a) (Zaz e)))) (inT m))).map pdP = du at *
  generalize (Zef (wpT (inT a) (Zaz e))).map pdP = dw3 at *
  generalize (Zef (wpT (inT a) (Zaz o))).map pdP = dw4 at *
  generalize (Zef (bwT (inT a) (Zaz e) (m.map (·.map Zaz)))).map pdP = dB at *
  generalize (Zb1 m).map pdP = dso at *
  generalize a.map pdP = da at *
  generalize m.map pdP = dm at *
  unfold pdE at z1 z2 y3 y4 c1 c2 c3 c11 c12 c13 ⊢
  refine Zaa Tryz.func7 rfl Tryz.ntmps7 rfl (fun X => ?_)
  exact wke
end Go.Proofs.YtgmahieoiifpfaaGreat
