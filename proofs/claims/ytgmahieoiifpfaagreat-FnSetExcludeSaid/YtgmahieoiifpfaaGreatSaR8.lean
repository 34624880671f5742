/- Part 8 of what the proof rests on. -/
import Derived.Test.YtgmahieoiifpfaaGreatSaR5
import Derived.Test.YtgmahieoiifpfaaGreatSaR6
import Derived.Test.YtgmahieoiifpfaaGreatSaR7
set_option linter.unusedSimpArgs false
set_option linter.unusedVariables false
set_option maxHeartbeats 8000000
set_option maxRecDepth 100000
namespace Go.Proofs.YtgmahieoiifpfaaGreat
open Go.RowKit
theorem Yrv (x : GV) : PCall Tryz.prog 93 [qV x] (.val (.bool (Zjg x))) := by
 have := Zk2 (P := Tryz.prog) (f := 93) (x := x) (u := .bool (Zjg x)) trivial (fun w v hv => (Zw6 x).use w v hv)
 rw [Zfw] at this
 exact this
theorem Znh (x : GV) : PCall Tryz.prog 199 [qV x] (.val (.bool (Zby x))) := by
 have := Zk2 (P := Tryz.prog) (f := 199) (x := x) (u := .bool (Zby x)) trivial (fun w v hv => Yba x w v hv)
 rw [Zfw] at this
 exact this
theorem Yqr {x : GV} (h : Fits (qV x)) : (Lit.float .f64 x.f).wf = true := by
 obtain ⟨w, F, v, hv⟩ := h.aggAt 2 (d := .val (.float .f64 x.f)) rfl
 unfold Rep at hv
 exact hv.2
theorem Zs9 (x : GV) : PCall Tryz.prog 200 [qV x] (.val (.float .f64 (asF x))) := by
 refine Zay fun hf => ?_
 have hx := Yqr (hf _ (List.mem_singleton.2 rfl))
 have := Zk2 (P := Tryz.prog) (f := 200) (x := x) (u := .float .f64 (asF x)) (by
  show (Lit.float .f64 (asF x)).wf = true
  unfold asF
  split
  ·exact floatOfInt_wf _ _
  ·exact hx) (fun w v hv => Znu x w v hv)
 rw [Zfw] at this
 exact this
theorem Zrg (x : GV) : PCall Tryz.prog 72 [qV x] (qV (Zat x)) := Zrh x
mutual
/-- Two plain values are equal. -/
def eqP : GV → GV → Bool
 | .mk k n f s ks l, .mk k' n' f' s' ks' l' =>
  if (Zby (.mk k n f s ks l) && Zby (.mk k' n' f' s' ks' l')) = true then
   (if k = 2 ∧ k' = 2 then decide (n = n') else feq (asF (.mk k n f s ks l)) (asF (.mk k' n' f' s' ks' l')))
  else decide (k = k') && (decide (n = n') && (decide (s = s') && (decide (ks = ks') && Zh7 l l')))
def Zh7 : List GV → List GV → Bool
 | [], [] => true
 | x :: r, y :: q => eqP x y && Zh7 r q
 | _, _ => false
end
theorem Zyo : ∀ {a b : List GV}, Zh7 a b = true → a.length = b.length
 | [], [], _ => rfl
 | x :: r, y :: q, h => by
  unfold Zh7 at h
  simp only [Bool.and_eq_true] at h
  simp [Zyo h.2]
 | [], _ :: _, h => by simp [Zh7] at h
 | _ :: _, [], h => by simp [Zh7] at h
theorem Zn3 : ∀ {a b : List GV}, a.length = b.length → (∀ (i : Nat) (x y : GV), a[i]? = some x → b[i]? = some y → eqP x y = true) → Zh7 a b = true
 | [], [], _, _ => by unfold Zh7; rfl
 | x :: r, y :: q, hl, h => by
  unfold Zh7
  rw [h 0 x y rfl rfl, Zn3 (by simpa using hl) (fun i x y hx hy => h (i + 1) x y (by simpa using hx) (by simpa using hy))]
  rfl
 | [], _ :: _, hl, _ => by simp at hl
 | _ :: _, [], hl, _ => by simp at hl
theorem Zlp : ∀ {a b : List GV} {i : Nat} {x y : GV}, a[i]? = some x → b[i]? = some y → eqP x y = false → Zh7 a b = false
 | x' :: r, y' :: q, 0, x, y, hx, hy, h => by
  simp only [List.getElem?_cons_zero, Option.some.injEq] at hx hy
  subst hx hy
  unfold Zh7
  rw [h]; rfl
 | x' :: r, y' :: q, i + 1, x, y, hx, hy, h => by
  unfold Zh7
  rw [Zlp (by simpa using hx) (by simpa using hy) h]
  simp
 | [], _, _, _, _, hx, _, _ => by simp at hx
 | _ :: _, [], _, _, _, _, hy, _ => by simp at hy
theorem Yib {a b : List GV} (h : Zh7 a b = true) (i : Nat) (x y : GV) (hx : a[i]? = some x) (hy : b[i]? = some y) : eqP x y = true := by
 cases e : eqP x y with
 | true => rfl
 | false => rw [Zlp hx hy e] at h; cases h
theorem Ymz (x y : GV) (h : (Zby x && Zby y) = true) : PCall Tryz.prog 138 [qV x, qV y] (.val (.bool (eqP x y))) := by
 obtain ⟨k, n, f, s, ks, l⟩ := x
 obtain ⟨k', n', f', s', ks', l'⟩ := y
 have c1 := Znh (.mk k n f s ks l)
 have c2 := Znh (.mk k' n' f' s' ks' l')
 have c3 := Zs9 (.mk k n f s ks l)
 have c4 := Zs9 (.mk k' n' f' s' ks' l')
 have hn := h
 simp only [Bool.and_eq_true] at hn
 rw [hn.1] at c1
 rw [hn.2] at c2
 have e : eqP (.mk k n f s ks l) (.mk k' n' f' s' ks' l') = if k = 2 ∧ k' = 2 then decide (n = n') else feq (asF (.mk k n f s ks l)) (asF (.mk k' n' f' s' ks' l')) := by
  unfold eqP; rw [if_pos h]
 rw [e]
 clear e h hn
 generalize asF (.mk k n f s ks l) = A at *
 generalize asF (.mk k' n' f' s' ks' l') = B at *
 refine Zaa Tryz.func138 rfl Tryz.ntmps138 rfl (fun X => ?_)
 by_cases hk : k = 2
 ·have q1 : decide (k = 2) = true := by simpa using hk
  by_cases hk' : k' = 2
  ·have q2 : decide (k' = 2) = true := by simpa using hk'
   rw [if_pos ⟨hk, hk'⟩]
   exact wke
  ·have q2 : decide (k' = 2) = false := by simpa using hk'
   rw [if_neg (fun h => hk' h.2)]
   exact wke
 ·have q1 : decide (k = 2) = false := by simpa using hk
  rw [if_neg (fun h => hk h.1)]
  exact wke
theorem Ym0 (x y : GV) (h : (Zby x && Zby y) = false) (ih : ∀ a ∈ x.l, ∀ b ∈ y.l, PCall Tryz.prog 138 [qV a, qV b] (.val (.bool (eqP a b)))) : PCall Tryz.prog 138 [qV x, qV y] (.val (.bool (eqP x y))) := by
 obtain ⟨k, n, f, s, ks, l⟩ := x
 obtain ⟨k', n', f', s', ks', l'⟩ := y
 refine Zay fun hfit => ?_
 have b1 := (Fits.aggAt (hfit (qV (.mk k n f s ks l)) (by simp)) 4 (d := .sl 1 16 (pdS ks)) rfl).sl.2.1
 have b2 := (Fits.aggAt (hfit (qV (.mk k n f s ks l)) (by simp)) 5 (d := .sl 6 88 (Zb6 l)) rfl).sl.2.1
 rw [Zb3] at b1
 rw [Zbu] at b2
 clear hfit
 have c1 := Znh (.mk k n f s ks l)
 have c2 := Znh (.mk k' n' f' s' ks' l')
 have e : eqP (.mk k n f s ks l) (.mk k' n' f' s' ks' l') = (decide (k = k') && (decide (n = n') && (decide (s = s') && (decide (ks = ks') && Zh7 l l')))) := by
  unfold eqP; rw [if_neg (by rw [h]; simp)]
 rw [e]
 clear e
 have ih : ∀ a ∈ l, ∀ b ∈ l', PCall Tryz.prog 138 [qV a, qV b] (.val (.bool (eqP a b))) := ih
 generalize Zby (.mk k n f s ks l) = p1 at *
 generalize Zby (.mk k' n' f' s' ks' l') = p2 at *
 have hlk := Zb3 ks
 have hlk' := Zb3 ks'
 have hll := Zbu l
 have hll' := Zbu l'
 refine Zaa Tryz.func138 rfl Tryz.ntmps138 rfl (fun X => ?_)
 by_cases e1 : k = k'
 rotate_left
 ·have q1 : decide (k ≠ k') = true := by simpa using e1
  rw [show decide (k = k') = false by simpa using e1, Bool.false_and]
  cases p1 <;> cases p2 <;> first | cases h | skip
  all_goals
   exact wke
 have q1 : decide (k ≠ k') = false := by simpa using e1
 rw [show decide (k = k') = true by simpa using e1, Bool.true_and]
 by_cases e2 : n = n'
 rotate_left
 ·have q2 : decide (n ≠ n') = true := by simpa using e2
  rw [show decide (n = n') = false by simpa using e2, Bool.false_and]
  cases p1 <;> cases p2 <;> first | cases h | skip
  all_goals
   exact wke
 have q2 : decide (n ≠ n') = false := by simpa using e2
 rw [show decide (n = n') = true by simpa using e2, Bool.true_and]
 by_cases e3 : s = s'
 rotate_left
 ·have q3 : decide (s ≠ s') = true := by simpa using e3
  rw [show decide (s = s') = false by simpa using e3, Bool.false_and]
  cases p1 <;> cases p2 <;> first | cases h | skip
  all_goals
   exact wke
 have q3 : decide (s ≠ s') = false := by simpa using e3
 rw [show decide (s = s') = true by simpa using e3, Bool.true_and]
 by_cases e4 : ks.length = ks'.length
 rotate_left
 ·have q4 : decide ((((pdS ks).length : Nat) : Int) ≠ (((pdS ks').length : Nat) : Int)) = true := by rw [hlk, hlk']; simp; omega
  rw [show decide (ks = ks') = false by
   simp only [decide_eq_false_iff_not]; exact fun h => e4 (by rw [h]), Bool.false_and]
  cases p1 <;> cases p2 <;> first | cases h | skip
  all_goals
   exact wke
 have q4 : decide ((((pdS ks).length : Nat) : Int) ≠ (((pdS ks').length : Nat) : Int)) = false := by rw [hlk, hlk']; simp; omega
 by_cases e5 : l.length = l'.length
 rotate_left
 ·have q5 : decide ((((Zb6 l).length : Nat) : Int) ≠ (((Zb6 l').length : Nat) : Int)) = true := by rw [hll, hll']; simp; omega
  rw [show Zh7 l l' = false by
   cases h : Zh7 l l' with
   | false => rfl
   | true => exact absurd (Zyo h) e5, Bool.and_false]
  cases p1 <;> cases p2 <;> first | cases h | skip
  all_goals
   exact wke
 have q5 : decide ((((Zb6 l).length : Nat) : Int) ≠ (((Zb6 l').length : Nat) : Int)) = false := by rw [hll, hll']; simp; omega
 refine Zeq (s' := Zh5 [qV (.mk k n f s ks l), qV (.mk k' n' f' s' ks' l')]) (fun _ _ h => h) ?_
 cases p1 <;> cases p2 <;> first | cases h | skip
 all_goals
  refine wk ?_
  refine Zap (ι := { j : Nat // j ≤ ks.length ∧ ∀ i, i < j → ks[i]? = ks'[i]? })
   (fun j => [(2, .ptr 2 0), (3, .ptr 3 0), (68, .dat (.val (.int .i64 ((pdS ks).length : Nat)))), (69, .dat (.val (.int .i64 (j.1 : Nat))))])
   (fun j => [(2, .box 27 (Zaq (qV (.mk k n f s ks l)))), (3, .box 27 (Zaq (qV (.mk k' n' f' s' ks' l'))))]) (fun j => ks.length - j.1) ⟨0, Nat.zero_le _, fun i h => absurd h (Nat.not_lt_zero i)⟩ id ?_ ?_
  ·exact sb
  rintro ⟨j, hj, hall⟩
  by_cases hlt : j < ks.length
  ·have hc : decide ((j : Int) < (((pdS ks).length : Nat) : Int)) = true := by rw [hlk]; simpa using hlt
   obtain ⟨x, hx⟩ : ∃ x, ks[j]? = some x := ⟨_, List.getElem?_eq_getElem hlt⟩
   obtain ⟨y, hy⟩ : ∃ y, ks'[j]? = some y := ⟨_, List.getElem?_eq_getElem (e4 ▸ hlt)⟩
   have i1 : (pdS ks)[((j : Nat) : Int).toNat]? = some (.val (.string x)) := Zfp hx
   have i2 : (pdS ks')[((j : Nat) : Int).toNat]? = some (.val (.string y)) := Zfp hy
   by_cases exy : x = y
   ·have q6 : decide (x ≠ y) = false := by simpa using exy
    refine wk ?_
    refine Zae ?_
    refine ⟨⟨j + 1, by omega, fun i hi => ?_⟩, id, by simp only; omega, ?_⟩
    ·by_cases e : i = j
     ·subst e; rw [hx, hy, exy]
     ·exact hall i (by omega)
    exact sb
   ·have q6 : decide (x ≠ y) = true := by simpa using exy
    rw [show decide (ks = ks') = false by
     simp only [decide_eq_false_iff_not]
     intro h; rw [h] at hx; rw [hx] at hy; exact exy (Option.some.inj hy), Bool.false_and]
    exact wke
  ·have hc : decide ((j : Int) < (((pdS ks).length : Nat) : Int)) = false := by rw [hlk]; simpa using hlt
   have ek : ks = ks' := by
    apply List.ext_getElem? 
    intro i
    by_cases hi : i < ks.length
    ·exact hall i (by omega)
    ·rw [List.getElem?_eq_none (by omega), List.getElem?_eq_none (by omega)]
   rw [show decide (ks = ks') = true by simpa using ek, Bool.true_and]
   refine wk ?_
   refine Zap (ι := { j : Nat // j ≤ l.length ∧ ∀ i x y, i < j → l[i]? = some x → l'[i]? = some y → eqP x y = true })
    (fun j => [(2, .ptr 2 0), (3, .ptr 3 0), (86, .dat (.val (.int .i64 ((Zb6 l).length : Nat)))), (87, .dat (.val (.int .i64 (j.1 : Nat))))])
    (fun j => [(2, .box 27 (Zaq (qV (.mk k n f s ks l)))), (3, .box 27 (Zaq (qV (.mk k' n' f' s' ks' l'))))]) (fun j => l.length - j.1) ⟨0, Nat.zero_le _, fun i _ _ h => absurd h (Nat.not_lt_zero i)⟩ id ?_ ?_
   ·exact sb
   clear hall hj hc hlt
   rintro ⟨j, hj, hall⟩
   by_cases hlt : j < l.length
   ·have hc : decide ((j : Int) < (((Zb6 l).length : Nat) : Int)) = true := by rw [hll]; simpa using hlt
    obtain ⟨x, hx⟩ : ∃ x, l[j]? = some x := ⟨_, List.getElem?_eq_getElem hlt⟩
    obtain ⟨y, hy⟩ : ∃ y, l'[j]? = some y := ⟨_, List.getElem?_eq_getElem (e5 ▸ hlt)⟩
    have i1 : (Zb6 l)[((j : Nat) : Int).toNat]? = some (qV x) := by rw [show qV x = pdV x from (Zfw x).symm]; exact Zff hx
    have i2 : (Zb6 l')[((j : Nat) : Int).toNat]? = some (qV y) := by rw [show qV y = pdV y from (Zfw y).symm]; exact Zff hy
    have hC := ih x (List.mem_of_getElem? hx) y (List.mem_of_getElem? hy)
    cases hr : eqP x y with
    | true =>
     rw [hr] at hC
     refine wk ?_
     refine Zae ?_
     refine ⟨⟨j + 1, by omega, fun i x' y' hi hx' hy' => ?_⟩, id, by simp only; omega, ?_⟩
     ·by_cases e : i = j
      ·subst e
       rw [hx] at hx'; rw [hy] at hy'
       cases hx'; cases hy'
       exact hr
      ·exact hall i x' y' (by omega) hx' hy'
     exact sb
    | false =>
     rw [hr] at hC
     rw [Zlp hx hy hr]
     exact wke
   ·have hc : decide ((j : Int) < (((Zb6 l).length : Nat) : Int)) = false := by rw [hll]; simpa using hlt
    rw [Zn3 e5 (fun i x y hx hy => hall i x y (by have := (List.getElem?_eq_some_iff.1 hx).1; omega) hx hy)]
    exact wke
theorem Yql : ∀ (x y : GV), PCall Tryz.prog 138 [qV x, qV y] (.val (.bool (eqP x y)))
 | .mk k n f s ks l, y => by
  cases h : Zby (.mk k n f s ks l) && Zby y with
  | true => exact Ymz _ _ h
  | false => exact Ym0 _ _ h (fun a ha b _ => Yql a b)
termination_by x => SizeOf.sizeOf x
decreasing_by
 simp_wf
 have ha : a ∈ l := ha
 have := List.sizeOf_lt_of_mem ha
 omega
theorem Zyp (x y : GV) : PCall Tryz.prog 75 [qV x, qV y] (.val (.bool (eqP (Zat x) (Zat y)))) := by
 have c1 := Zrg x
 have c2 := Zrg y
 have c3 := Yql (Zat x) (Zat y)
 refine Zaa Tryz.func75 rfl Tryz.ntmps75 rfl (fun X => ?_)
 exact wke
end Go.Proofs.YtgmahieoiifpfaaGreat
section
namespace Go.Proofs.YtgmahieoiifpfaaGreat
open Ieee
structure Tri (p q r : Int) : Prop where
 rp : p = -1 ∨ p = 0 ∨ p = 1
 rq : q = -1 ∨ q = 0 ∨ q = 1
 rr : r = -1 ∨ r = 0 ∨ r = 1
 zp : p = 0 → r = q
 zq : q = 0 → r = p
 lt : p = -1 → q = -1 → r = -1
 gt : p = 1 → q = 1 → r = 1
def rng (p : Int) : Prop := p = -1 ∨ p = 0 ∨ p = 1
def lx (a r : Int) : Int := if a ≠ 0 then a else r
theorem Zgz {a r : Int} (h : rng a) (h' : rng r) : rng (lx a r) := by
 unfold rng lx at *
 split <;> assumption
theorem Zjm {a b c p q r : Int} (h : Tri a b c) (hp : rng p) (hq : rng q) (hr : rng r) (h' : a = 0 → b = 0 → Tri p q r) : Tri (lx a p) (lx b q) (lx c r) := by
 obtain ⟨h1, h2, h3, h4, h5, h6, h7⟩ := h
 unfold rng at *
 unfold lx
 by_cases ha : a = 0
 ·by_cases hb : b = 0
  ·have hc : c = 0 := by rw [h4 ha, hb]
   rw [if_neg (by simp [ha]), if_neg (by simp [hb]), if_neg (by simp [hc])]
   exact h' ha hb
  ·have hc := h4 ha
   rw [if_neg (by simp [ha]), if_pos hb, if_pos (by rw [hc]; exact hb), hc]
   constructor <;> omega
 ·by_cases hb : b = 0
  ·have hc := h5 hb
   rw [if_pos ha, if_neg (by simp [hb]), if_pos (by rw [hc]; exact ha), hc]
   constructor <;> omega
  ·rw [if_pos ha, if_pos hb]
   by_cases hc : c = 0
   ·rw [if_neg (by simp [hc])]
    constructor <;> omega
   ·rw [if_pos hc]
    constructor <;> omega
theorem Zc5 (a b : Int) : rng (Zbv a b) := by
 unfold Zbv rng
 split
 ·exact .inl rfl
 ·split
  ·exact .inr (.inr rfl)
  ·exact .inr (.inl rfl)
theorem Zej (a b c : Int) : Tri (Zbv a b) (Zbv b c) (Zbv a c) := by
 have e : ∀ x y : Int, (Zbv x y = -1 ∧ x < y) ∨ (Zbv x y = 0 ∧ x = y) ∨ (Zbv x y = 1 ∧ y < x) := fun x y => by
  unfold Zbv
  by_cases h : x < y
  ·rw [if_pos h]; exact .inl ⟨rfl, h⟩
  ·rw [if_neg h]
   by_cases h' : y < x
   ·rw [if_pos h']; exact .inr (.inr ⟨rfl, h'⟩)
   ·rw [if_neg h']; exact .inr (.inl ⟨rfl, by omega⟩)
 have e1 := e a b
 have e2 := e b c
 have e3 := e a c
 constructor <;> omega
theorem Zdf (a b : Int) : Zbv b a = - Zbv a b := by
 unfold Zbv
 by_cases h : a < b
 ·rw [if_pos h, if_neg (by omega), if_pos h]; rfl
 ·by_cases h' : b < a
  ·rw [if_pos h', if_neg h, if_pos h']
  ·rw [if_neg h', if_neg h, if_neg h, if_neg h']; rfl
theorem cmpI_zero {a b : Int} : Zbv a b = 0 ↔ a = b := by
 unfold Zbv
 by_cases h : a < b
 ·rw [if_pos h]; constructor <;> intro h' <;> omega
 ·rw [if_neg h]
  by_cases h' : b < a
  ·rw [if_pos h']; constructor <;> intro h' <;> omega
  ·rw [if_neg h']; constructor <;> intro h' <;> omega
theorem Zh2 (a b : ByteArray) : rng (Zda a b) := by
 unfold Zda rng
 split
 ·exact .inl rfl
 ·split
  ·exact .inr (.inr rfl)
  ·exact .inr (.inl rfl)
theorem Zi2 (a b : ByteArray) : (Zda a b = -1 ∧ blt a b = true) ∨ (Zda a b = 0 ∧ a = b) ∨ (Zda a b = 1 ∧ blt b a = true) := by
 unfold Zda
 cases h : blt a b with
 | true => exact .inl ⟨rfl, rfl⟩
 | false =>
  cases h' : blt b a with
  | true => exact .inr (.inr ⟨rfl, rfl⟩)
  | false => exact .inr (.inl ⟨rfl, Zf8 h h'⟩)
theorem cmpS_zero {a b : ByteArray} : Zda a b = 0 ↔ a = b := by
 constructor
 ·intro h
  rcases Zi2 a b with h' | h' | h'
  ·omega
  ·exact h'.2
  ·omega
 ·rintro rfl
  rcases Zi2 a a with h' | h' | h'
  ·rw [Zbb] at h'; cases h'.2
  ·exact h'.1
  ·rw [Zbb] at h'; cases h'.2
theorem Zgb (a b : ByteArray) : Zda b a = - Zda a b := by
 rcases Zi2 a b with h | h | h
 ·rw [h.1]; unfold Zda; rw [if_neg (by rw [Zfm h.2]; simp), if_pos h.2]; rfl
 ·rw [h.1, h.2]; rw [cmpS_zero.2 rfl]; rfl
 ·rw [h.1]; unfold Zda; rw [if_pos h.2]
theorem Zm4 {a b : ByteArray} (h : Zda a b = -1) : blt a b = true := by
 rcases Zi2 a b with h' | h' | h'
 ·exact h'.2
 ·omega
 ·omega
theorem Zno (a b c : ByteArray) : Tri (Zda a b) (Zda b c) (Zda a c) := by
 refine ⟨Zh2 _ _, Zh2 _ _, Zh2 _ _, fun h => ?_, fun h => ?_, fun h h' => ?_, fun h h' => ?_⟩
 ·rw [cmpS_zero.1 h]
 ·rw [cmpS_zero.1 h]
 ·unfold Zda; rw [if_pos (Zca (Zm4 h) (Zm4 h'))]
 ·have h1 := Zgb a b
  have h2 := Zgb b c
  have h3 := Zgb a c
  have : Zda c a = -1 := by
   unfold Zda; rw [if_pos (Zca (Zm4 (a := c) (b := b) (by omega)) (Zm4 (a := b) (b := a) (by omega)))]
  omega
theorem Zmr (s : Bool) (m u k : Nat) : signed s m (u + k) = signed s m u * (2 ^ k : Nat) := by
 unfold signed
 have : m <<< (u + k) = (m <<< u) * 2 ^ k := by rw [Nat.shiftLeft_eq, Nat.shiftLeft_eq, Nat.pow_add, Nat.mul_assoc]
 rw [this]
 cases s
 ·simp only [Bool.false_eq_true, if_false]; push_cast; rfl
 ·simp only [if_true]; push_cast; rw [Int.neg_mul]
def Yta : Datum → Int × Int
 | .infinity s => (if s then -1 else 1, 0)
 | .number s m p => (0, signed s m (p + 1074).toNat)
 | .nan _ _ => (0, 0)
def Yl6 (a b : Int × Int) : Int := lx (Zbv a.1 b.1) (Zbv a.2 b.2)
theorem Ykk (a b c : Int × Int) : Tri (Yl6 a b) (Yl6 b c) (Yl6 a c) := Zjm (Zej _ _ _) (Zc5 _ _) (Zc5 _ _) (Zc5 _ _) (fun _ _ => Zej _ _ _)
theorem Zxw {a b : Int} (k : Nat) (hk : 0 < k) : Zbv (a * (k : Int)) (b * (k : Int)) = Zbv a b := by
 unfold Zbv
 have hk : (0 : Int) < k := by omega
 have e : ∀ x y : Int, x * (k : Int) < y * (k : Int) ↔ x < y := fun x y => ⟨fun h => Int.lt_of_mul_lt_mul_right h (Int.le_of_lt hk), fun h => Int.mul_lt_mul_of_pos_right h hk⟩
 simp only [e]
def Yjt : Option Ordering → Int
 | some .lt => -1
 | some .gt => 1
 | _ => 0
theorem Ziu (a b : Int) : Yjt (some (compare a b)) = Zbv a b := by
 unfold Zbv
 by_cases h : a < b
 ·rw [if_pos h, show compare a b = .lt from Int.compare_eq_lt.2 h]; rfl
 ·rw [if_neg h]
  by_cases h' : b < a
  ·rw [if_pos h', show compare a b = .gt from Int.compare_eq_gt.2 h']; rfl
  ·rw [if_neg h', show compare a b = .eq from Int.compare_eq_eq.2 (by omega)]; rfl
def okD : Datum → Prop
 | .number _ _ p => -1074 ≤ p
 | .infinity _ => True
 | .nan _ _ => False
theorem Yfo {d e : Datum} (hd : okD d) (he : okD e) : Yjt (d.order e) = Yl6 (Yta d) (Yta e) := by
 cases d with
 | nan _ _ => exact hd.elim
 | infinity s =>
  cases e with
  | nan _ _ => exact he.elim
  | infinity t => cases s <;> cases t <;> rfl
  | number t n j => cases s <;> rfl
 | number s m i =>
  cases e with
  | nan _ _ => exact he.elim
  | infinity t => cases t <;> rfl
  | number t n j =>
   have hd : -1074 ≤ i := hd
   have he : -1074 ≤ j := he
   show Yjt (some (compare (signed s m (i - min i j).toNat) (signed t n (j - min i j).toNat))) = lx (Zbv 0 0) (Zbv (signed s m (i + 1074).toNat) (signed t n (j + 1074).toNat))
   rw [Ziu]
   have e1 : (i + 1074).toNat = (i - min i j).toNat + (min i j + 1074).toNat := by omega
   have e2 : (j + 1074).toNat = (j - min i j).toNat + (min i j + 1074).toNat := by omega
   rw [e1, e2, Zmr, Zmr, Zxw _ (Nat.two_pow_pos _)]
   rw [cmpI_zero.2 rfl]
   rfl
theorem Yjh {f : Nat} (h : ∀ s r, FloatKind.f64.format.read f ≠ .nan s r) : okD (FloatKind.f64.format.read f) := by
 have hp : FloatKind.f64.format.leastPlace = -1074 := by decide
 have : ∀ d, d = FloatKind.f64.format.read f → okD d := by
  intro d h0
  have hd := h0
  unfold Format.read at hd
  simp only at hd
  split at hd
  ·subst hd; show -1074 ≤ FloatKind.f64.format.leastPlace; omega
  ·split at hd
   ·subst hd; show -1074 ≤ FloatKind.f64.format.leastPlace + _; omega
   ·split at hd
    ·subst hd; trivial
    ·exact absurd (h0.symm.trans hd) (h _ _)
 exact this _ rfl
def Yhb (f : Nat) : Int × Int := Yta (FloatKind.f64.format.read f)
theorem Yqq {f : Nat} (h : feq f f = true) : okD (FloatKind.f64.format.read f) := by
 refine Yjh fun s r e => ?_
 unfold feq Format.order at h
 rw [e] at h
 cases h
theorem Ybg (f g : Nat) (hf : okD (FloatKind.f64.format.read f)) (hg : okD (FloatKind.f64.format.read g)) : Yjt (FloatKind.f64.format.order f g) = Yl6 (Yhb f) (Yhb g) := Yfo hf hg
theorem Zii (a b : Nat) : Zkf a b = Yjt (FloatKind.f64.format.order a b) := by
 unfold Zkf
 cases FloatKind.f64.format.order a b with
 | none => rfl
 | some o => cases o <;> rfl
theorem Ybh (d e : Datum) : Yjt (e.order d) = - Yjt (d.order e) := by
 cases d with
 | nan _ _ => cases e <;> rfl
 | infinity s =>
  cases e with
  | nan _ _ => rfl
  | infinity t => cases s <;> cases t <;> rfl
  | number t n j => cases s <;> rfl
 | number s m i =>
  cases e with
  | nan _ _ => rfl
  | infinity t => cases t <;> rfl
  | number t n j =>
   show Yjt (some (compare (signed t n (j - min j i).toNat) (signed s m (i - min j i).toNat))) = - Yjt (some (compare (signed s m (i - min i j).toNat) (signed t n (j - min i j).toNat)))
   rw [Ziu, Ziu, show min j i = min i j by omega, Zdf]
theorem Yao (a b : Nat) : Zkf b a = - Zkf a b := by rw [Zii, Zii]; exact Ybh _ _
theorem Ygb (a b : Nat) : rng (Zkf a b) := by
 rw [Zii]
 unfold rng
 cases FloatKind.f64.format.order a b with
 | none => exact .inr (.inl rfl)
 | some o => cases o <;> decide
theorem Yie {f g : Nat} (hf : okD (FloatKind.f64.format.read f)) (hg : okD (FloatKind.f64.format.read g)) : feq f g = true ↔ Zkf f g = 0 := by
 rw [Zii]
 unfold feq
 cases h : FloatKind.f64.format.order f g with
 | none =>
  exfalso
  unfold Format.order at h
  revert h
  generalize FloatKind.f64.format.read f = d at *
  generalize FloatKind.f64.format.read g = e at *
  cases d <;> cases e <;> intro h <;> first | exact hf | exact hg | cases h
 | some o => cases o <;> decide
theorem Yf2 {s : Bool} {r : Nat} (h1 : 2 ^ 52 ≤ r) (h2 : r < 2047 * 2 ^ 52) : FloatKind.f64.format.read (FloatKind.f64.format.word s r) = .number s (2 ^ 52 + r % 2 ^ 52) (-1074 + (r / 2 ^ 52 - 1 : Nat)) := by
 have e1 : FloatKind.f64.format.signWeight = 2 ^ 63 := by decide
 have e2 : FloatKind.f64.format.binade = 2 ^ 52 := by decide
 have e3 : FloatKind.f64.format.infRung = 2047 * 2 ^ 52 := by decide
 have e4 : FloatKind.f64.format.leastPlace = -1074 := by decide
 unfold Format.read Format.word
 rw [e1, e2, e3, e4]
 have hr : (if s then 2 ^ 63 + r else r) % 2 ^ 63 = r := by cases s <;> simp <;> omega
 have hn : ((if s then 2 ^ 63 + r else r) / 2 ^ 63 % 2 == 1) = s := by
  cases s
  ·have : r / 2 ^ 63 = 0 := by omega
   simp only [Bool.false_eq_true, if_false, this]; rfl
  ·have : (2 ^ 63 + r) / 2 ^ 63 = 1 := by omega
   simp only [if_true, this]; rfl
 simp only [hr, hn]
 rw [if_neg (by omega), if_pos h2]
theorem Yhw (s : Bool) (n : Nat) : Toward.even.cut s n 0 = n := by
 unfold Toward.cut
 simp [Nat.mod_one]
theorem Ynx {n : Int} (h1 : -9007199254740992 ≤ n) (h2 : n ≤ 9007199254740992) : Yhb (floatOfInt .f64 n) = (0, n * (2 ^ 1074 : Nat)) ∧ okD (FloatKind.f64.format.read (floatOfInt .f64 n)) := by
 by_cases h0 : n = 0
 ·subst h0
  have e : FloatKind.f64.format.read (floatOfInt .f64 0) = .number false 0 (-1074) := by decide +kernel
  unfold Yhb
  rw [e]
  exact ⟨by decide +kernel, Int.le_refl _⟩
 by_cases h3 : n = 9007199254740992
 ·subst h3
  have e : FloatKind.f64.format.read (floatOfInt .f64 9007199254740992) = .number false (2 ^ 52) 1 := by decide +kernel
  unfold Yhb
  rw [e]
  exact ⟨by decide +kernel, by unfold okD; omega⟩
 by_cases h4 : n = -9007199254740992
 ·subst h4
  have e : FloatKind.f64.format.read (floatOfInt .f64 (-9007199254740992)) = .number true (2 ^ 52) 1 := by decide +kernel
  unfold Yhb
  rw [e]
  exact ⟨by decide +kernel, by unfold okD; omega⟩
 obtain ⟨m, hm⟩ : ∃ m, m = n.natAbs := ⟨_, rfl⟩
 have hm0 : m ≠ 0 := by omega
 have hm1 : m < 2 ^ 53 := by omega
 obtain ⟨L, hL⟩ : ∃ L, L = m.log2 := ⟨_, rfl⟩
 have hL1 : 2 ^ L ≤ m := by rw [hL]; exact Nat.log2_self_le hm0
 have hL2 : m < 2 ^ (L + 1) := by rw [hL]; exact Nat.lt_log2_self
 have hL3 : L ≤ 52 := by
  have : 2 ^ L < 2 ^ 53 := by omega
  have := (Nat.pow_lt_pow_iff_right (by decide : 1 < 2)).1 this
  omega
 obtain ⟨E, hE⟩ : ∃ E, E = 1074 := ⟨_, rfl⟩
 have e5 : 52 - L + (L + 1022) = E := by omega
 obtain ⟨s, hs⟩ : ∃ s : Bool, s = decide (n < 0) := ⟨_, rfl⟩
 have e1 : FloatKind.f64.format.leastPlace = -1074 := by decide
 have e2 : FloatKind.f64.format.binade = 2 ^ 52 := by decide
 have e3 : FloatKind.f64.format.infRung = 2047 * 2 ^ 52 := by decide
 have e4 : FloatKind.f64.format.fractionBits = 52 := by decide
 obtain ⟨K, hK⟩ : ∃ K, K = m * 2 ^ (52 - L) := ⟨_, rfl⟩
 have hp : 2 ^ 52 = 2 ^ L * 2 ^ (52 - L) := by rw [← Nat.pow_add]; congr 1; omega
 have hp' : 2 ^ 53 = 2 ^ (L + 1) * 2 ^ (52 - L) := by rw [← Nat.pow_add]; congr 1; omega
 have hK1 : 2 ^ 52 ≤ K := by rw [hK, hp]; exact Nat.mul_le_mul_right _ hL1
 have hK2 : K < 2 ^ 53 := by rw [hK, hp']; exact Nat.mul_lt_mul_of_pos_right hL2 (Nat.two_pow_pos _)
 have hw : floatOfInt .f64 n = FloatKind.f64.format.word s ((L + 1022) * 2 ^ 52 + K) := by
  show FloatKind.f64.format.nearest (decide (n < 0)) n.natAbs 0 = _
  rw [← hs, ← hm]
  unfold Format.nearest
  rw [if_neg hm0, e1, e2, e3, e4, ← hL]
  have hl : max (0 + (L : Int) - (52 : Nat)) (-1074) = (L : Int) - 52 := by omega
  simp only [hl]
  rw [show ((0 : Int) - ((L : Int) - 52)).toNat = 52 - L by omega, show ((L : Int) - 52 - 0).toNat = 0 by omega, show ((L : Int) - 52 - -1074).toNat = L + 1022 by omega, Yhw, Nat.shiftLeft_eq, ← hK, Nat.min_eq_left (by omega)]
 have hr := Yf2 (s := s) (r := (L + 1022) * 2 ^ 52 + K) (by omega) (by omega)
 rw [show 2 ^ 52 + ((L + 1022) * 2 ^ 52 + K) % 2 ^ 52 = K by omega, show ((L + 1022) * 2 ^ 52 + K) / 2 ^ 52 - 1 = L + 1022 by omega] at hr
 unfold Yhb
 rw [hw, hr]
 refine ⟨?_, by show (-1074 : Int) ≤ _; omega⟩
 show ((0 : Int), signed s K (-1074 + ((L + 1022 : Nat) : Int) + 1074).toNat) = _
 rw [show (-1074 + ((L + 1022 : Nat) : Int) + 1074).toNat = L + 1022 by omega]
 rw [← hE]
 have hsh : K <<< (L + 1022) = m * 2 ^ E := by
  rw [Nat.shiftLeft_eq, hK, Nat.mul_assoc, ← Nat.pow_add]
  rw [e5]
 unfold signed
 rw [hsh]
 subst hs
 generalize 2 ^ E = B
 by_cases hn : n < 0
 ·have hmn : -(m : Int) = n := by clear hsh; omega
  rw [decide_eq_true hn, if_pos rfl, Int.natCast_mul, ← Int.neg_mul, hmn]
 ·have hmn : (m : Int) = n := by clear hsh; omega
  rw [decide_eq_false hn, if_neg (by simp), Int.natCast_mul, hmn]
end Go.Proofs.YtgmahieoiifpfaaGreat
end
section
namespace Go.Proofs.YtgmahieoiifpfaaGreat
theorem Zkv (a r : Int) : lx (-a) (-r) = - lx a r := by
 unfold lx
 by_cases h : a = 0
 ·rw [if_neg (by simp [h]), if_neg (by simp [h])]
 ·rw [if_pos (by omega), if_pos h]
theorem Zee {a r : Int} (h : a ≠ 0) : lx a r = a := if_pos h
theorem Zce {a r : Int} (h : a = 0) : lx a r = r := if_neg (by simp [h])
theorem Zct {a r : Int} : lx a r = 0 ↔ a = 0 ∧ r = 0 := by
 unfold lx
 by_cases h : a = 0
 ·rw [if_neg (by simp [h])]; simp [h]
 ·rw [if_pos h]; simp [h]
def Zwb (x y : GV) : Int := if x.kind = 2 ∧ y.kind = 2 then Zbv x.n y.n else Zkf (asF x) (asF y)
def Zre (r : Int) (x y : GV) : Int := if r = 0 then Zwb x y else if r = 1 then Zda x.s y.s else if r = 2 then Zbv x.n y.n else if r = 3 then Zdr x.l y.l else if r = 4 then Zch x.keys x.l y.keys y.l else 0
theorem Zjr (x y : GV) : Zdo x y = lx (Zbv (Zbt x) (Zbt y)) (Zre (Zbt x) x y) := by
 cases x; cases y
 simp only [Zdo]
 rfl
theorem Zep (x y : GV) (r q : List GV) : Zdr (x :: r) (y :: q) = lx (Zdo x y) (Zdr r q) := by simp only [Zdr]; rfl
theorem Zfb (k k' : ByteArray) (ks ks' : List ByteArray) (x y : GV) (r q : List GV) : Zch (k :: ks) (x :: r) (k' :: ks') (y :: q) = lx (Zda k k') (lx (Zdo x y) (Zch ks r ks' q)) := by simp only [Zch]; rfl
theorem Zc7 (b : List GV) : Zdr [] b = Zbv 0 b.length := by simp only [Zdr]
theorem Zd2 (a : List GV) : Zdr a [] = Zbv a.length 0 := by cases a <;> simp only [Zdr] <;> rfl
theorem Zf9 {a b : Int} (h : a < b) : Zbv a b = -1 := if_pos h
theorem Zfa {a b : Int} (h : b < a) : Zbv a b = 1 := by unfold Zbv; rw [if_neg (by omega), if_pos h]
theorem Ycp (a : Int) : Zbv a a = 0 := cmpI_zero.2 rfl
theorem Zmq : ∀ {a b : List GV}, (∀ x ∈ a, ∀ y, rng (Zdo x y)) → rng (Zdr a b)
 | [], b, _ => by rw [Zc7]; exact Zc5 _ _
 | a :: r, [], _ => by rw [Zd2]; exact Zc5 _ _
 | x :: r, y :: q, h => by rw [Zep]; exact Zgz (h x (by simp) y) (Zmq fun z hz => h z (by simp [hz]))
theorem Zqx : ∀ {ks : List ByteArray} {a : List GV} {ks' : List ByteArray} {b : List GV}, (∀ x ∈ a, ∀ y, rng (Zdo x y)) → rng (Zch ks a ks' b)
 | [], _, _, _, _ => by simp only [Zch]; exact Zc5 _ _
 | _ :: _, [], _, _, _ => by simp only [Zch]; exact Zc5 _ _
 | _ :: _, _ :: _, [], _, _ => by simp only [Zch]; exact Zc5 _ _
 | _ :: _, _ :: _, _ :: _, [], _ => by simp only [Zch]; exact Zc5 _ _
 | k :: ks, x :: r, k' :: ks', y :: q, h => by
  rw [Zfb]
  exact Zgz (Zh2 _ _) (Zgz (h x (by simp) y) (Zqx fun z hz => h z (by simp [hz])))
theorem Ygc (x y : GV) : rng (Zwb x y) := by
 unfold Zwb
 split
 ·exact Zc5 _ _
 ·exact Ygb _ _
theorem Znk (r : Int) {x y : GV} (h : ∀ z ∈ x.l, ∀ u, rng (Zdo z u)) : rng (Zre r x y) := by
 unfold Zre
 split
 ·exact Ygc _ _
 ·split
  ·exact Zh2 _ _
  ·split
   ·exact Zc5 _ _
   ·split
    ·exact Zmq h
    ·split
     ·exact Zqx h
     ·exact .inr (.inl rfl)
theorem Yr1 {x z : GV} (h : z ∈ x.l) : SizeOf.sizeOf z < SizeOf.sizeOf x := by
 cases x
 have := List.sizeOf_lt_of_mem h
 simp only [GV.mk.sizeOf_spec]
 have e : ∀ (k n : Int) (f : Nat) (s : ByteArray) (ks : List ByteArray) (l : List GV), (GV.mk k n f s ks l).l = l := fun _ _ _ _ _ _ => rfl
 rw [e] at this
 omega
theorem Zix (x y : GV) : rng (Zdo x y) := by
 induction hk : SizeOf.sizeOf x using Nat.strongRecOn generalizing x y with
 | _ n IH =>
 subst hk
 rw [Zjr]
 exact Zgz (Zc5 _ _) (Znk _ fun z hz u => IH _ (Yr1 hz) z u rfl)
theorem Ygv : ∀ {a b : List GV}, (∀ x ∈ a, ∀ y, Zdo y x = - Zdo x y) → Zdr b a = - Zdr a b
 | [], b, _ => by rw [Zc7, Zd2, Zdf]
 | a :: r, [], _ => by rw [Zc7, Zd2, Zdf]
 | x :: r, y :: q, h => by rw [Zep, Zep, h x (by simp), Ygv fun z hz => h z (by simp [hz]), Zkv]
theorem Ygw : ∀ {ks : List ByteArray} {a : List GV} {ks' : List ByteArray} {b : List GV}, (∀ x ∈ a, ∀ y, Zdo y x = - Zdo x y) → Zch ks' b ks a = - Zch ks a ks' b
 | [], a, ks', b, _ => by cases ks' <;> cases b <;> cases a <;> simp only [Zch] <;> exact Zdf _ _
 | k :: ks, [], ks', b, _ => by cases ks' <;> cases b <;> simp only [Zch] <;> exact Zdf _ _
 | _ :: _, _ :: _, [], b, _ => by cases b <;> simp only [Zch] <;> exact Zdf _ _
 | _ :: _, _ :: _, _ :: _, [], _ => by simp only [Zch]; exact Zdf _ _
 | k :: ks, x :: r, k' :: ks', y :: q, h => by
  rw [Zfb, Zfb, Zgb k k', h x (by simp), Ygw fun z hz => h z (by simp [hz]), Zkv, Zkv]
theorem Yrz (x y : GV) : Zdo y x = - Zdo x y := by
 induction hk : SizeOf.sizeOf x using Nat.strongRecOn generalizing x y with
 | _ n IH =>
 subst hk
 rw [Zjr, Zjr, Zdf (Zbt x)]
 by_cases hr : Zbt x = Zbt y
 ·have hb : Zre (Zbt y) y x = - Zre (Zbt x) x y := by
   rw [← hr]
   unfold Zre
   split
   ·unfold Zwb
    by_cases h : x.kind = 2 ∧ y.kind = 2
    ·rw [if_pos h, if_pos ⟨h.2, h.1⟩, Zdf]
    ·rw [if_neg h, if_neg (fun h' => h ⟨h'.2, h'.1⟩), Yao]
   ·split
    ·exact Zgb _ _
    ·split
     ·exact Zdf _ _
     ·split
      ·exact Ygv fun z hz u => IH _ (Yr1 hz) z u rfl
      ·split
       ·exact Ygw fun z hz u => IH _ (Yr1 hz) z u rfl
       ·rfl
  rw [hb, Zkv]
 ·have h1 : Zbv (Zbt x) (Zbt y) ≠ 0 := fun h => hr (cmpI_zero.1 h)
  rw [Zee (by omega), Zee h1]
mutual
/-- A plain value without NaN and whole numbers beyond 2^53. -/
def OG : GV → Prop
 | .mk k n f s ks l => OGs l ∧ ((k = 0 ∧ n = 0 ∧ s = ByteArray.empty ∧ ks = [] ∧ l = []) ∨ (k = 1 ∧ s = ByteArray.empty ∧ ks = [] ∧ l = []) ∨ (k = 2 ∧ -9007199254740992 ≤ n ∧ n ≤ 9007199254740992) ∨ (k = 3 ∧ feq f f = true)
  ∨ (k = 4 ∧ n = 0 ∧ ks = [] ∧ l = []) ∨ (k = 5 ∧ n = 0 ∧ s = ByteArray.empty ∧ ks = []) ∨ (k = 6 ∧ n = 0 ∧ s = ByteArray.empty ∧ Zfx ks ∧ ks.length = l.length))
def OGs : List GV → Prop
 | [] => True
 | x :: r => OG x ∧ OGs r
end
theorem Yca : ∀ {l : List GV}, OGs l → ∀ y ∈ l, OG y
 | x :: r, h, y, hy => by
  simp only [OGs] at h
  rcases List.mem_cons.1 hy with rfl | hy
  ·exact h.1
  ·exact Yca h.2 y hy
theorem Ykr : ∀ {l : List GV}, (∀ y ∈ l, OG y) → OGs l
 | [], _ => by simp only [OGs]
 | x :: r, h => by simp only [OGs]; exact ⟨h x (by simp), Ykr fun y hy => h y (by simp [hy])⟩
theorem OG.subs {x : GV} (h : OG x) : ∀ y ∈ x.l, OG y := by
 cases x
 unfold OG at h
 exact Yca h.1
def Yrk (x : GV) : Int × Int := if x.kind = 2 then (0, x.n * (2 ^ 1074 : Nat)) else Yhb x.f
theorem Zso (k n : Int) (f : Nat) (s : ByteArray) (ks : List ByteArray) (l : List GV) : Zbt (.mk k n f s ks l) = if k = 2 then 0 else if k = 3 then 0 else if k = 4 then 1 else if k = 1 then 2 else if k = 5 then 3 else if k = 6 then 4 else 5 := rfl
theorem OG.num {x : GV} (h : OG x) (hr : Zbt x = 0) : Yhb (asF x) = Yrk x ∧ Ieee.Datum.order (FloatKind.f64.format.read (asF x)) = Ieee.Datum.order (FloatKind.f64.format.read (asF x)) ∧ okD (FloatKind.f64.format.read (asF x)) ∧ (x.kind = 2 ∨ x.kind = 3) := by
 obtain ⟨k, n, f, s, ks, l⟩ := x
 unfold OG at h
 have e : asF (.mk k n f s ks l) = if k = 2 then floatOfInt .f64 n else f := rfl
 have e2 : Yrk (.mk k n f s ks l) = if k = 2 then (0, n * (2 ^ 1074 : Nat)) else Yhb f := rfl
 rw [e, e2]
 rw [Zso] at hr
 obtain ⟨_, h⟩ := h
 rcases h with h | h | h | h | h | h | h <;> obtain ⟨rfl, h⟩ := h
 ·exact absurd hr (by decide)
 ·exact absurd hr (by decide)
 ·obtain ⟨h1, h2⟩ := Ynx h.1 h.2
  rw [if_pos rfl, if_pos rfl]
  exact ⟨h1, rfl, h2, .inl rfl⟩
 ·rw [if_neg (by decide), if_neg (by decide)]
  exact ⟨rfl, rfl, Yqq h, .inr rfl⟩
 ·exact absurd hr (by decide)
 ·exact absurd hr (by decide)
 ·exact absurd hr (by decide)
theorem Zn2 {x y : GV} (hx : OG x) (hy : OG y) (h1 : Zbt x = 0) (h2 : Zbt y = 0) : Zwb x y = Yl6 (Yrk x) (Yrk y) := by
 obtain ⟨a1, _, a2, _⟩ := hx.num h1
 obtain ⟨b1, _, b2, _⟩ := hy.num h2
 unfold Zwb
 by_cases h : x.kind = 2 ∧ y.kind = 2
 ·rw [if_pos h]
  unfold Yrk Yl6
  rw [if_pos h.1, if_pos h.2]
  have hB := Nat.two_pow_pos 1074
  generalize 2 ^ 1074 = B at *
  show _ = lx (Zbv 0 0) (Zbv (x.n * (B : Int)) (y.n * (B : Int)))
  rw [Zce (Ycp 0)]
  exact (Zxw _ hB).symm
 ·rw [if_neg h, Zii, Ybg _ _ a2 b2, a1, b1]
theorem Ylm : ∀ {a b c : List GV}, (∀ x ∈ a, ∀ y ∈ b, ∀ z ∈ c, Tri (Zdo x y) (Zdo y z) (Zdo x z)) → Tri (Zdr a b) (Zdr b c) (Zdr a c)
 | [], b, [], _ => by
  rw [Zc7, Zc7, Zd2]
  exact Zej 0 b.length 0
 | [], [], z :: c, _ => by
  rw [Zc7, Zc7]
  exact Zej 0 0 _
 | [], y :: b, z :: c, _ => by
  rw [Zc7, Zc7, Zf9 (by first | (simp; done) | (simp; omega)), Zf9 (by first | (simp; done) | (simp; omega))]
  have := Zmq (a := y :: b) (b := z :: c) (fun x _ y => Zix x y)
  unfold rng at this
  constructor <;> omega
 | x :: a, [], c, _ => by
  rw [Zd2, Zc7, Zfa (by first | (simp; done) | (simp; omega))]
  have h1 := Zmq (a := x :: a) (b := c) (fun x _ y => Zix x y)
  have h2 := Zc5 0 c.length
  unfold rng at h1 h2
  cases c with
  | nil => rw [show Zbv 0 ((([] : List GV).length : Nat) : Int) = 0 from rfl, Zd2, Zfa (by first | (simp; done) | (simp; omega))]; constructor <;> omega
  | cons z c => rw [Zf9 (by first | (simp; done) | (simp; omega))]; constructor <;> omega
 | x :: a, y :: b, [], _ => by
  rw [Zd2, Zd2, Zfa (by first | (simp; done) | (simp; omega)), Zfa (by first | (simp; done) | (simp; omega))]
  have h1 := Zmq (a := x :: a) (b := y :: b) (fun x _ y => Zix x y)
  unfold rng at h1
  constructor <;> omega
 | x :: a, y :: b, z :: c, h => by
  rw [Zep, Zep, Zep]
  exact Zjm (h x (by simp) y (by simp) z (by simp)) (Zmq fun x _ y => Zix x y) (Zmq fun x _ y => Zix x y) (Zmq fun x _ y => Zix x y) (fun _ _ => Ylm fun x hx y hy z hz => h x (by simp [hx]) y (by simp [hy]) z (by simp [hz]))
theorem Zeb {ks : List ByteArray} {b : List GV} (a : List GV) : Zch [] a ks b = Zbv 0 ks.length := by simp only [Zch]; rfl
theorem Zf4 {ks : List ByteArray} {a : List GV} (b : List GV) : Zch ks a [] b = Zbv ks.length 0 := by cases ks <;> cases a <;> simp only [Zch] <;> rfl
theorem Yln : ∀ {k1 : List ByteArray} {a : List GV} {k2 : List ByteArray} {b : List GV} {k3 : List ByteArray} {c : List GV}, k1.length = a.length → k2.length = b.length → k3.length = c.length → (∀ x ∈ a, ∀ y ∈ b, ∀ z ∈ c, Tri (Zdo x y) (Zdo y z) (Zdo x z)) → Tri (Zch k1 a k2 b) (Zch k2 b k3 c) (Zch k1 a k3 c)
 | [], a, k2, b, [], c, _, _, _, _ => by
  rw [Zeb, Zeb, Zf4]
  exact Zej 0 k2.length 0
 | [], a, [], b, z :: k3, c, _, _, _, _ => by
  rw [Zeb, Zeb, Zeb]
  exact Zej 0 0 _
 | [], a, y :: k2, b, z :: k3, c, _, _, _, _ => by
  rw [Zeb, Zeb, Zf9 (by first | (simp; done) | (simp; omega)), Zf9 (by first | (simp; done) | (simp; omega))]
  have := Zqx (ks := y :: k2) (a := b) (ks' := z :: k3) (b := c) (fun x _ y => Zix x y)
  unfold rng at this
  constructor <;> omega
 | x :: k1, a, [], b, k3, c, _, _, _, _ => by
  rw [Zf4, Zeb, Zfa (by first | (simp; done) | (simp; omega))]
  have h1 := Zqx (ks := x :: k1) (a := a) (ks' := k3) (b := c) (fun x _ y => Zix x y)
  have h2 := Zc5 0 k3.length
  unfold rng at h1 h2
  cases k3 with
  | nil => rw [show Zbv 0 ((([] : List ByteArray).length : Nat) : Int) = 0 from rfl, Zf4, Zfa (by first | (simp; done) | (simp; omega))]; constructor <;> omega
  | cons z c => rw [Zf9 (by first | (simp; done) | (simp; omega))]; constructor <;> omega
 | x :: k1, a, y :: k2, b, [], c, _, _, _, _ => by
  rw [Zf4, Zf4, Zfa (by first | (simp; done) | (simp; omega)), Zfa (by first | (simp; done) | (simp; omega))]
  have h1 := Zqx (ks := x :: k1) (a := a) (ks' := y :: k2) (b := b) (fun x _ y => Zix x y)
  unfold rng at h1
  constructor <;> omega
 | u :: k1, x :: a, v :: k2, y :: b, w :: k3, z :: c, h1, h2, h3, h => by
  rw [Zfb, Zfb, Zfb]
  have R : ∀ (ks : List ByteArray) (a : List GV) (ks' : List ByteArray) (b : List GV), rng (Zch ks a ks' b) := fun _ _ _ _ => Zqx fun x _ y => Zix x y
  exact Zjm (Zno u v w) (Zgz (Zix _ _) (R _ _ _ _)) (Zgz (Zix _ _) (R _ _ _ _)) (Zgz (Zix _ _) (R _ _ _ _)) (fun _ _ =>
   Zjm (h x (by simp) y (by simp) z (by simp)) (R _ _ _ _) (R _ _ _ _) (R _ _ _ _) (fun _ _ => Yln (by simpa using h1) (by simpa using h2) (by simpa using h3) fun x hx y hy z hz => h x (by simp [hx]) y (by simp [hy]) z (by simp [hz])))
 | u :: k1, [], _, _, _, _, h1, _, _, _ => by simp at h1
 | _ :: _, _ :: _, v :: k2, [], _, _, _, h2, _, _ => by simp at h2
 | _ :: _, _ :: _, _ :: _, _ :: _, w :: k3, [], _, _, h3, _ => by simp at h3
theorem OG.keys {x : GV} (h : OG x) (hr : Zbt x = 4) : x.keys.length = x.l.length ∧ Zfx x.keys := by
 obtain ⟨k, n, f, s, ks, l⟩ := x
 unfold OG at h
 rw [Zso] at hr
 obtain ⟨_, h⟩ := h
 rcases h with h | h | h | h | h | h | h <;> obtain ⟨rfl, h⟩ := h
 ·exact absurd hr (by decide)
 ·exact absurd hr (by decide)
 ·exact absurd hr (by decide)
 ·exact absurd hr (by decide)
 ·exact absurd hr (by decide)
 ·exact absurd hr (by decide)
 ·exact ⟨h.2.2.2, h.2.2.1⟩
theorem Ytj (x y z : GV) (hx : OG x) (hy : OG y) (hz : OG z) : Tri (Zdo x y) (Zdo y z) (Zdo x z) := by
 induction hk : SizeOf.sizeOf x using Nat.strongRecOn generalizing x y z with
 | _ n IH =>
 subst hk
 rw [Zjr, Zjr, Zjr]
 refine Zjm (Zej _ _ _) (Znk _ fun z _ u => Zix z u) (Znk _ fun z _ u => Zix z u) (Znk _ fun z _ u => Zix z u) fun h1 h2 => ?_
 have h1 := cmpI_zero.1 h1
 have h2 := cmpI_zero.1 h2
 have ih : ∀ a ∈ x.l, ∀ b ∈ y.l, ∀ c ∈ z.l, Tri (Zdo a b) (Zdo b c) (Zdo a c) := fun a ha b hb c hc => IH _ (Yr1 ha) a b c (hx.subs a ha) (hy.subs b hb) (hz.subs c hc) rfl
 unfold Zre
 rw [← h1]
 split
 ·rename_i h0
  rw [Zn2 hx hy h0 (by omega), Zn2 hy hz (by omega) (by omega), Zn2 hx hz h0 (by omega)]
  exact Ykk _ _ _
 ·split
  ·exact Zno _ _ _
  ·split
   ·exact Zej _ _ _
   ·split
    ·exact Ylm ih
    ·split
     ·rename_i h4
      exact Yln (hx.keys h4).1 (hy.keys (by omega)).1 (hz.keys (by omega)).1 ih
     ·constructor <;> omega
end Go.Proofs.YtgmahieoiifpfaaGreat
end
namespace Go.Proofs.YtgmahieoiifpfaaGreat
open Go.RowKit
theorem Yon (k n : Int) (f : Nat) (s : ByteArray) (ks : List ByteArray) (l : List GV) (k' n' : Int) (f' : Nat) (s' : ByteArray) (ks' : List ByteArray) (l' : List GV) (hL : ks.length ≤ l.length) (hL' : ks'.length ≤ l'.length) (ih : ∀ a ∈ l, ∀ b ∈ l', PCall Tryz.prog 246 [qV a, qV b] (.val (.int .i64 (Zdo a b)))) :
  PCall Tryz.prog 260 [qV (.mk k n f s ks l), qV (.mk k' n' f' s' ks' l')] (.val (.int .i64 (Zch ks l ks' l'))) := by
 refine Zay fun hfit => ?_
 have b1 := (Fits.aggAt (hfit (qV (.mk k n f s ks l)) (by simp)) 4 (d := .sl 1 16 (pdS ks)) rfl).sl.2.1
 rw [Zb3] at b1
 clear hfit
 have hlk := Zb3 ks
 have hlk' := Zb3 ks'
 have cI := Ziz (((pdS ks).length : Nat) : Int) (((pdS ks').length : Nat) : Int)
 refine Zaa Tryz.func260 rfl Tryz.ntmps260 rfl (fun X => ?_)
 refine wk ?_
 refine Zap (ι := { j : Nat // (j ≤ ks.length ∧ j ≤ ks'.length) ∧ ∀ i u v x y, i < j → ks[i]? = some u → ks'[i]? = some v → l[i]? = some x → l'[i]? = some y → Zda u v = 0 ∧ Zdo x y = 0 })
  (fun j => [(2, .ptr 2 0), (3, .ptr 3 0), (5, .dat (.val (.int .i64 (j.1 : Nat))))])
  (fun _ => [(2, .box 27 (Zaq (qV (.mk k n f s ks l)))), (3, .box 27 (Zaq (qV (.mk k' n' f' s' ks' l'))))]) (fun j => ks.length - j.1) ⟨0, ⟨Nat.zero_le _, Nat.zero_le _⟩, fun i _ _ _ _ h => absurd h (Nat.not_lt_zero i)⟩ id ?_ ?_
 ·exact sb
 rintro ⟨j, ⟨hj, hj'⟩, hall⟩
 have hend : j = ks.length ∨ j = ks'.length → Zch ks l ks' l' = Zbv (((pdS ks).length : Nat) : Int) (((pdS ks').length : Nat) : Int) := fun h => by
  rw [hlk, hlk']
  exact Ztk hL hL' (fun i u v x y hu hv => hall i u v x y (by
   have := (List.getElem?_eq_some_iff.1 hu).1
   have := (List.getElem?_eq_some_iff.1 hv).1
   omega) hu hv)
 by_cases hlt : j < ks.length
 ·have g1 : decide ((j : Int) < (((pdS ks).length : Nat) : Int)) = true := decide_eq_true (by omega)
  by_cases hlt' : j < ks'.length
  ·have g2 : decide ((j : Int) < (((pdS ks').length : Nat) : Int)) = true := decide_eq_true (by omega)
   obtain ⟨u, hu⟩ : ∃ u, ks[j]? = some u := ⟨_, List.getElem?_eq_getElem hlt⟩
   obtain ⟨v, hv⟩ : ∃ v, ks'[j]? = some v := ⟨_, List.getElem?_eq_getElem hlt'⟩
   obtain ⟨x, hx⟩ : ∃ x, l[j]? = some x := ⟨_, List.getElem?_eq_getElem (by omega)⟩
   obtain ⟨y, hy⟩ : ∃ y, l'[j]? = some y := ⟨_, List.getElem?_eq_getElem (by omega)⟩
   have k1 : (pdS ks)[((j : Nat) : Int).toNat]? = some (.val (.string u)) := Zfp hu
   have k2 : (pdS ks')[((j : Nat) : Int).toNat]? = some (.val (.string v)) := Zfp hv
   have i1 : (Zb6 l)[((j : Nat) : Int).toNat]? = some (qV x) := by rw [show qV x = pdV x from (Zfw x).symm]; exact Zff hx
   have i2 : (Zb6 l')[((j : Nat) : Int).toNat]? = some (qV y) := by rw [show qV y = pdV y from (Zfw y).symm]; exact Zff hy
   have hC := ih x (List.mem_of_getElem? hx) y (List.mem_of_getElem? hy)
   have hS := Zpi u v
   by_cases hs : Zda u v = 0
   ·have g3 : decide (Zda u v ≠ 0) = false := decide_eq_false (by simp [hs])
    by_cases hr : Zdo x y = 0
    ·have g4 : decide (Zdo x y ≠ 0) = false := decide_eq_false (by simp [hr])
     refine wk ?_
     refine Zae ?_
     refine ⟨⟨j + 1, ⟨by omega, by omega⟩, fun i u' v' x' y' hi hu' hv' hx' hy' => ?_⟩, id, by simp only; omega, ?_⟩
     ·by_cases e : i = j
      ·subst e
       rw [hu] at hu'; rw [hv] at hv'
       rw [hx] at hx'; rw [hy] at hy'
       cases hu'; cases hv'
       cases hx'; cases hy'
       exact ⟨hs, hr⟩
      ·exact hall i u' v' x' y' (by omega) hu' hv' hx' hy'
     exact sb
    ·have g4 : decide (Zdo x y ≠ 0) = true := decide_eq_true hr
     rw [Ztm hL hL' (fun i u v x y hi => hall i u v x y hi) hu hv hx hy hs hr]
     exact wke
   ·have g3 : decide (Zda u v ≠ 0) = true := decide_eq_true hs
    rw [Ztl hL hL' (fun i u v x y hi => hall i u v x y hi) hu hv hs]
    exact wke
  ·have g2 : decide ((j : Int) < (((pdS ks').length : Nat) : Int)) = false := decide_eq_false (by omega)
   rw [hend (.inr (by omega))]
   exact wke
 ·have g1 : decide ((j : Int) < (((pdS ks).length : Nat) : Int)) = false := decide_eq_false (by omega)
  rw [hend (.inl (by omega))]
  exact wke
theorem Ym3 {x : GV} (h : Fits (qV x)) : (Lit.float .f64 x.f).wf = true := by
 obtain ⟨w, F, v, hv⟩ := h.aggAt 2 (d := .val (.float .f64 x.f)) rfl
 unfold Rep at hv
 exact hv.2
theorem Zqz (x : GV) : PCall Tryz.prog 200 [qV x] (.val (.float .f64 (asF x))) := by
 refine Zay fun hf => ?_
 have hx := Ym3 (hf _ (List.mem_singleton.2 rfl))
 have := Zk2 (P := Tryz.prog) (f := 200) (x := x) (u := .float .f64 (asF x)) (by
  show (Lit.float .f64 (asF x)).wf = true
  unfold asF
  split
  ·exact floatOfInt_wf _ _
  ·exact hx) (fun w v hv => Znu x w v hv)
 rw [Zfw] at this
 exact this
theorem Ybl (x : GV) : Zbt x = 0 ∨ Zbt x = 1 ∨ Zbt x = 2 ∨ Zbt x = 3 ∨ Zbt x = 4 ∨ Zbt x = 5 := by
 unfold Zbt
 repeat' split
 all_goals simp
theorem Ygm (x y : GV) (hx : PlG x) (hy : PlG y) (ih : ∀ a ∈ x.l, ∀ b ∈ y.l, PCall Tryz.prog 246 [qV a, qV b] (.val (.int .i64 (Zdo a b)))) : PCall Tryz.prog 246 [qV x, qV y] (.val (.int .i64 (Zdo x y))) := by
 obtain ⟨k, n, f, s, ks, l⟩ := x
 obtain ⟨k', n', f', s', ks', l'⟩ := y
 simp only [PlG] at hx hy
 have c1 := Ygn (.mk k n f s ks l)
 have c2 := Ygn (.mk k' n' f' s' ks' l')
 have c3 := Ziz (Zbt (.mk k n f s ks l)) (Zbt (.mk k' n' f' s' ks' l'))
 have c4 := Zqz (.mk k n f s ks l)
 have c5 := Zqz (.mk k' n' f' s' ks' l')
 have c6 := Ygl (asF (.mk k n f s ks l)) (asF (.mk k' n' f' s' ks' l'))
 have c7 := Zpi s s'
 have c8 := Ziz n n'
 have c9 := Yj8 l l' ih
 have c10 := Yon k n f s ks l k' n' f' s' ks' l' hx.1 hy.1 ih
 have hr := Ybl (.mk k n f s ks l)
 rw [show Zdo (.mk k n f s ks l) (.mk k' n' f' s' ks' l') = if Zbv (Zbt (.mk k n f s ks l)) (Zbt (.mk k' n' f' s' ks' l')) ≠ 0 then Zbv (Zbt (.mk k n f s ks l)) (Zbt (.mk k' n' f' s' ks' l'))
  else if Zbt (.mk k n f s ks l) = 0 then (if k = 2 ∧ k' = 2 then Zbv n n' else Zkf (asF (.mk k n f s ks l)) (asF (.mk k' n' f' s' ks' l')))
  else if Zbt (.mk k n f s ks l) = 1 then Zda s s'
  else if Zbt (.mk k n f s ks l) = 2 then Zbv n n'
  else if Zbt (.mk k n f s ks l) = 3 then Zdr l l'
  else if Zbt (.mk k n f s ks l) = 4 then Zch ks l ks' l'
  else 0 by simp only [Zdo]]
 clear ih hx hy
 generalize Zbt (.mk k n f s ks l) = r at *
 generalize Zbt (.mk k' n' f' s' ks' l') = r' at *
 generalize asF (.mk k n f s ks l) = A at *
 generalize asF (.mk k' n' f' s' ks' l') = B at *
 generalize Zbv r r' = R at *
 generalize Zbv n n' = R2 at *
 refine Zaa Tryz.func246 rfl Tryz.ntmps246 rfl (fun X => ?_)
 by_cases h0 : R = 0
 rotate_left
 ·have g0 : decide (R ≠ 0) = true := decide_eq_true h0
  rw [if_pos h0]
  exact wke
 have g0 : decide (R ≠ 0) = false := decide_eq_false (by simp [h0])
 rw [if_neg (by simp [h0])]
 rcases hr with hr | hr | hr | hr | hr | hr <;> subst hr
 ·rw [if_pos rfl]
  by_cases e1 : k = 2
  ·have q1 : decide (k = 2) = true := decide_eq_true e1
   by_cases e2 : k' = 2
   ·have q2 : decide (k' = 2) = true := decide_eq_true e2
    rw [if_pos ⟨e1, e2⟩]
    exact wke
   ·have q2 : decide (k' = 2) = false := decide_eq_false e2
    rw [if_neg (fun h => e2 h.2)]
    exact wke
  ·have q1 : decide (k = 2) = false := decide_eq_false e1
   rw [if_neg (fun h => e1 h.1)]
   exact wke
 ·rw [if_neg (by decide), if_pos rfl]
  exact wke
 ·rw [if_neg (by decide), if_neg (by decide), if_pos rfl]
  exact wke
 ·rw [if_neg (by decide), if_neg (by decide), if_neg (by decide), if_pos rfl]
  exact wke
 ·rw [if_neg (by decide), if_neg (by decide), if_neg (by decide), if_neg (by decide), if_pos rfl]
  exact wke
 ·rw [if_neg (by decide), if_neg (by decide), if_neg (by decide), if_neg (by decide), if_neg (by decide)]
  exact wke
theorem Zz2 : ∀ (x y : GV), PlG x → PlG y → PCall Tryz.prog 246 [qV x, qV y] (.val (.int .i64 (Zdo x y)))
 | .mk k n f s ks l, .mk k' n' f' s' ks' l', hx, hy => Ygm _ _ hx hy (fun a ha b hb => Zz2 a b (Zrc (by simp only [PlG] at hx; exact hx.2) a ha) (Zrc (by simp only [PlG] at hy; exact hy.2) b hb))
termination_by x => SizeOf.sizeOf x
decreasing_by
 simp_wf
 have ha : a ∈ l := ha
 have := List.sizeOf_lt_of_mem ha
 omega
theorem Ypx : ∀ j : JV, JOk j → PlG (unJ j) := by
 intro j
 induction hk : SizeOf.sizeOf j using Nat.strongRecOn generalizing j with
 | _ n IH =>
 subst hk
 intro hj
 cases j with
 | list l =>
  unfold JOk at hj
  rw [show unJ (.list l) = .mk 5 0 0 ByteArray.empty [] (Zgr l) by unfold unJ; rfl]
  unfold PlG
  refine ⟨by simp, ?_⟩
  have : ∀ (r : List JV), (∀ y ∈ r, y ∈ l) → Znq r → Zxm (Zgr r) := by
   intro r
   induction r with
   | nil => intro _ _; simp only [Zgr, Zxm]
   | cons x r ih =>
    intro h hr
    simp only [Znq] at hr
    simp only [Zgr, Zxm]
    exact ⟨IH (SizeOf.sizeOf x) (by have := List.sizeOf_lt_of_mem (h x (by simp)); simp; omega) x rfl hr.1, ih (fun y hy => h y (by simp [hy])) hr.2⟩
  exact this l (fun _ h => h) hj.2
 | map m =>
  unfold JOk at hj
  obtain ⟨ks, l, e, hi, hl, hk, hg⟩ := Zh6 hj.1
  rw [show unJ (.map m) = unM m gMap by unfold unJ; rfl, e]
  unfold PlG
  refine ⟨by omega, ?_⟩
  have key : ∀ x ∈ l, PlG x := by
   intro x hx
   obtain ⟨i, hi⟩ := List.getElem?_of_mem hx
   have hil := (List.getElem?_eq_some_iff.1 hi).1
   obtain ⟨k, hkk⟩ : ∃ k, ks[i]? = some k := ⟨_, List.getElem?_eq_getElem (by omega)⟩
   obtain ⟨j, hj1, hj2⟩ := (hg k x).1 ⟨i, hkk, hi⟩
   rw [← hj2]
   have hm := Zdc hj1
   refine IH (SizeOf.sizeOf j) ?_ j rfl (Zes hj.2.2 _ hm)
   have := List.sizeOf_lt_of_mem hm
   simp at this ⊢
   omega
  clear hg hl e
  induction l with
  | nil => simp only [Zxm]
  | cons x r ih => simp only [Zxm]; exact ⟨key x (by simp), ih (fun y hy => key y (by simp [hy]))⟩
 | null => rw [show unJ .null = .mk 0 0 0 ByteArray.empty [] [] by unfold unJ; rfl]; unfold PlG; exact ⟨by simp, by simp only [Zxm]⟩
 | bool b => rw [show unJ (.bool b) = .mk 1 (if b then 1 else 0) 0 ByteArray.empty [] [] by unfold unJ; rfl]; unfold PlG; exact ⟨by simp, by simp only [Zxm]⟩
 | int b => rw [show unJ (.int b) = .mk 2 b 0 ByteArray.empty [] [] by unfold unJ; rfl]; unfold PlG; exact ⟨by simp, by simp only [Zxm]⟩
 | flt b => rw [show unJ (.flt b) = .mk 3 0 b ByteArray.empty [] [] by unfold unJ; rfl]; unfold PlG; exact ⟨by simp, by simp only [Zxm]⟩
 | str b => rw [show unJ (.str b) = .mk 4 0 0 b [] [] by unfold unJ; rfl]; unfold PlG; exact ⟨by simp, by simp only [Zxm]⟩
theorem Zs8 {x : GV} (h : Fits (qV x)) : PlG (Zat x) := by
 obtain ⟨w0, F0, v0, h0⟩ := h
 rw [← Zd9]
 exact Ypx _ (Zk4 x (IsV.gok x (Zpd x (by rw [Zfw]; exact h0))))
theorem Zq0 (x y : GV) : PCall Tryz.prog 230 [qV x, qV y] (.val (.int .i64 (Zdo (Zat x) (Zat y)))) := by
 refine Zay fun hf => ?_
 have c3 := Zz2 (Zat x) (Zat y) (Zs8 (hf (qV x) (by simp))) (Zs8 (hf (qV y) (by simp)))
 clear hf
 have c1 := Zrg x
 have c2 := Zrg y
 generalize Zat x = x' at *
 generalize Zat y = y' at *
 refine Zaa Tryz.func230 rfl Tryz.ntmps230 rfl (fun X => ?_)
 repeat' (first
  | refine Zah ?_
  | (refine Zao rfl ?_; first | refine Zad rfl rfl ?_ | refine Zdb rfl rfl rfl (by first | rfl | (simp only [Zaq]; rfl)) ?_)
  | refine Zac ?_
  | refine Zab ?_
  | refine Zaj (Zal rfl rfl ?_)
  | refine Ze4 (by kernel_rfl) ?_
  | refine Zmx (And.intro (by kernel_rfl) ?_)
  | refine Zbl (Zim rfl rfl) ?_
  | refine Zbl (Zwc rfl rfl rfl (by first | rfl | (simp only [Zaq]; rfl))) ?_
  | refine Zbl (Ykv rfl (by kernel_rfl) rfl (by first | exact c1 | exact c2 | exact c3)) ?_
  | fail)
 all_goals exact PLe.refl _
end Go.Proofs.YtgmahieoiifpfaaGreat
section
namespace Go.Proofs.YtgmahieoiifpfaaGreat
theorem Zyn : ∀ {a b : List GV}, (∀ x ∈ a, ∀ y ∈ b, eqP x y = true ↔ Zdo x y = 0) → (Zh7 a b = true ↔ Zdr a b = 0)
 | [], [], _ => by rw [Zc7]; unfold Zh7; simp [Zbv]
 | [], y :: b, _ => by rw [Zc7, Zf9 (by first | (simp; done) | (simp; omega))]; unfold Zh7; simp
 | x :: a, [], _ => by rw [Zd2, Zfa (by first | (simp; done) | (simp; omega))]; unfold Zh7; simp
 | x :: a, y :: b, h => by
  rw [Zep, Zct, ← Zyn (a := a) (b := b) (fun x hx y hy => h x (by simp [hx]) y (by simp [hy])), ← h x (by simp) y (by simp)]
  simp only [Zh7, Bool.and_eq_true]
theorem Zp3 : ∀ {ks : List ByteArray} {a : List GV} {ks' : List ByteArray} {b : List GV}, ks.length = a.length → ks'.length = b.length → (Zch ks a ks' b = 0 ↔ ks = ks' ∧ Zdr a b = 0)
 | [], a, [], b, h, h' => by
  have e1 : a = [] := List.eq_nil_of_length_eq_zero h.symm
  have e2 : b = [] := List.eq_nil_of_length_eq_zero h'.symm
  subst e1 e2
  rw [Zeb, Zc7]
  simp [Zbv]
 | [], a, k' :: ks', b, h, h' => by
  rw [Zeb, Zf9 (by first | (simp; done) | (simp; omega))]
  simp
 | k :: ks, a, [], b, h, h' => by
  rw [Zf4, Zfa (by first | (simp; done) | (simp; omega))]
  simp
 | k :: ks, x :: a, k' :: ks', y :: b, h, h' => by
  rw [Zfb, Zep, Zct, Zct, Zct, cmpS_zero, Zp3 (by simpa using h) (by simpa using h')]
  simp only [List.cons.injEq]
  constructor
  ·rintro ⟨h1, h2, h3, h4⟩; exact ⟨⟨h1, h3⟩, h2, h4⟩
  ·rintro ⟨⟨h1, h3⟩, h2, h4⟩; exact ⟨h1, h2, h3, h4⟩
 | _ :: _, [], _, _, h, _ => by simp at h
 | _ :: _, _ :: _, _ :: _, [], _, h' => by simp at h'
theorem Zy1 (k n : Int) (f : Nat) (s : ByteArray) (ks : List ByteArray) (l : List GV) : Zby (.mk k n f s ks l) = (decide (k = 2) || decide (k = 3)) := rfl
theorem Yia {x y : GV} (h : (Zby x && Zby y) = true) : eqP x y = (if x.kind = 2 ∧ y.kind = 2 then decide (x.n = y.n) else feq (asF x) (asF y)) := by
 cases x; cases y
 simp only [eqP]
 rw [if_pos h]
 rfl
theorem Ymy {x y : GV} (h : (Zby x && Zby y) = false) : eqP x y = (decide (x.kind = y.kind) && (decide (x.n = y.n) && (decide (x.s = y.s) && (decide (x.keys = y.keys) && Zh7 x.l y.l)))) := by
 cases x; cases y
 simp only [eqP]
 rw [if_neg (by rw [h]; simp)]
 rfl
theorem OG.kind_of {x : GV} (h : OG x) : (Zbt x = 0 ∧ Zby x = true) ∨ (Zbt x = 1 ∧ x.kind = 4 ∧ x.n = 0 ∧ x.keys = [] ∧ x.l = []) ∨ (Zbt x = 2 ∧ x.kind = 1 ∧ x.s = ByteArray.empty ∧ x.keys = [] ∧ x.l = [])
  ∨ (Zbt x = 3 ∧ x.kind = 5 ∧ x.n = 0 ∧ x.s = ByteArray.empty ∧ x.keys = []) ∨ (Zbt x = 4 ∧ x.kind = 6 ∧ x.n = 0 ∧ x.s = ByteArray.empty) ∨ (Zbt x = 5 ∧ x.kind = 0 ∧ x.n = 0 ∧ x.s = ByteArray.empty ∧ x.keys = [] ∧ x.l = []) := by
 obtain ⟨k, n, f, s, ks, l⟩ := x
 unfold OG at h
 obtain ⟨_, h⟩ := h
 rw [Zso, Zy1]
 rcases h with h | h | h | h | h | h | h <;> obtain ⟨rfl, h⟩ := h
 ·exact .inr (.inr (.inr (.inr (.inr ⟨rfl, rfl, h⟩))))
 ·exact .inr (.inr (.inl ⟨rfl, rfl, h⟩))
 ·exact .inl ⟨rfl, rfl⟩
 ·exact .inl ⟨rfl, rfl⟩
 ·exact .inr (.inl ⟨rfl, rfl, h⟩)
 ·exact .inr (.inr (.inr (.inl ⟨rfl, rfl, h⟩)))
 ·exact .inr (.inr (.inr (.inr (.inl ⟨rfl, rfl, h.1, h.2.1⟩))))
theorem Zzx {x : GV} (h : Zby x = true) : Zbt x = 0 := by
 cases x
 rw [Zy1] at h
 rw [Zso]
 simp at h
 rcases h with h | h <;> simp [h]
theorem Ymx (x y : GV) (hx : OG x) (hy : OG y) : eqP x y = true ↔ Zdo x y = 0 := by
 induction hk : SizeOf.sizeOf x using Nat.strongRecOn generalizing x y with
 | _ n IH =>
 subst hk
 rw [Zjr, Zct, cmpI_zero]
 have ih : Zh7 x.l y.l = true ↔ Zdr x.l y.l = 0 := Zyn fun a ha b hb => IH _ (Yr1 ha) a b (hx.subs a ha) (hy.subs b hb) rfl
 cases hn : Zby x && Zby y with
 | true =>
  have hn' := hn
  simp only [Bool.and_eq_true] at hn'
  have r1 := Zzx hn'.1
  have r2 := Zzx hn'.2
  rw [Yia hn, r1, r2]
  unfold Zre
  rw [if_pos rfl]
  obtain ⟨_, _, a2, _⟩ := hx.num r1
  obtain ⟨_, _, b2, _⟩ := hy.num r2
  unfold Zwb
  by_cases h : x.kind = 2 ∧ y.kind = 2
  ·rw [if_pos h, if_pos h, cmpI_zero]
   simp
  ·rw [if_neg h, if_neg h, Yie a2 b2]
   simp
 | false =>
  rw [Ymy hn]
  simp only [Bool.and_eq_true, decide_eq_true_eq]
  by_cases hr : Zbt x = Zbt y
  ·have key := hx.kind_of
   have key' := hy.kind_of
   rw [← hr] at key'
   rw [← hr]
   rcases key with ⟨h, h1⟩ | ⟨h, h1⟩ | ⟨h, h1⟩ | ⟨h, h1⟩ | ⟨h, h1⟩ | ⟨h, h1⟩
   ·rw [h1] at hn
    have : Zby y = true := by
     rcases key' with ⟨h', h2⟩ | ⟨h', h2⟩ | ⟨h', h2⟩ | ⟨h', h2⟩ | ⟨h', h2⟩ | ⟨h', h2⟩
     ·exact h2
     all_goals omega
    rw [this] at hn; cases hn
   all_goals
    rw [h] at key' ⊢
    unfold Zre
    simp (config := { decide := true }) only [if_false, if_true]
   ·obtain ⟨a1, a2, a3, a4⟩ := h1
    obtain ⟨b1, b2, b3, b4⟩ : y.kind = 4 ∧ y.n = 0 ∧ y.keys = [] ∧ y.l = [] := by
     rcases key' with ⟨h', h2⟩ | ⟨h', h2⟩ | ⟨h', h2⟩ | ⟨h', h2⟩ | ⟨h', h2⟩ | ⟨h', h2⟩ <;> first | exact h2 | omega
    rw [a1, a2, a3, a4, b1, b2, b3, b4, cmpS_zero]
    simp [Zh7]
   ·obtain ⟨a1, a2, a3, a4⟩ := h1
    obtain ⟨b1, b2, b3, b4⟩ : y.kind = 1 ∧ y.s = ByteArray.empty ∧ y.keys = [] ∧ y.l = [] := by
     rcases key' with ⟨h', h2⟩ | ⟨h', h2⟩ | ⟨h', h2⟩ | ⟨h', h2⟩ | ⟨h', h2⟩ | ⟨h', h2⟩ <;> first | exact h2 | omega
    rw [a1, a2, a3, a4, b1, b2, b3, b4, cmpI_zero]
    simp [Zh7]
   ·obtain ⟨a1, a2, a3, a4⟩ := h1
    obtain ⟨b1, b2, b3, b4⟩ : y.kind = 5 ∧ y.n = 0 ∧ y.s = ByteArray.empty ∧ y.keys = [] := by
     rcases key' with ⟨h', h2⟩ | ⟨h', h2⟩ | ⟨h', h2⟩ | ⟨h', h2⟩ | ⟨h', h2⟩ | ⟨h', h2⟩ <;> first | exact h2 | omega
    rw [a1, a2, a3, a4, b1, b2, b3, b4, ih]
    simp
   ·obtain ⟨a1, a2, a3⟩ := h1
    obtain ⟨b1, b2, b3⟩ : y.kind = 6 ∧ y.n = 0 ∧ y.s = ByteArray.empty := by
     rcases key' with ⟨h', h2⟩ | ⟨h', h2⟩ | ⟨h', h2⟩ | ⟨h', h2⟩ | ⟨h', h2⟩ | ⟨h', h2⟩ <;> first | exact h2 | omega
    rw [a1, a2, a3, b1, b2, b3, ih, Zp3 (hx.keys h).1 (hy.keys (hr ▸ h)).1]
    simp
   ·obtain ⟨a1, a2, a3, a4, a5⟩ := h1
    obtain ⟨b1, b2, b3, b4, b5⟩ : y.kind = 0 ∧ y.n = 0 ∧ y.s = ByteArray.empty ∧ y.keys = [] ∧ y.l = [] := by
     rcases key' with ⟨h', h2⟩ | ⟨h', h2⟩ | ⟨h', h2⟩ | ⟨h', h2⟩ | ⟨h', h2⟩ | ⟨h', h2⟩ <;> first | exact h2 | omega
    rw [a1, a2, a3, a4, a5, b1, b2, b3, b4, b5]
    simp [Zh7]
  ·constructor
   ·rintro ⟨h, _⟩
    exfalso
    apply hr
    unfold Zbt
    rw [h]
   ·rintro ⟨h, _⟩; exact absurd h hr
theorem Ypu : ∀ j : JV, JOk j → Zjg (unJ j) = true → OG (unJ j) := by
 intro j
 induction hk : SizeOf.sizeOf j using Nat.strongRecOn generalizing j with
 | _ n IH =>
 subst hk
 intro hj ho
 cases j with
 | list l =>
  unfold JOk at hj
  rw [show unJ (.list l) = .mk 5 0 0 ByteArray.empty [] (Zgr l) by unfold unJ; rfl] at ho ⊢
  unfold OG
  have ho : Zmo (Zgr l) = true := by unfold Zjg at ho; exact ho
  refine ⟨?_, .inr (.inr (.inr (.inr (.inr (.inl ⟨rfl, rfl, rfl, rfl⟩)))))⟩
  have : ∀ (r : List JV), (∀ y ∈ r, y ∈ l) → Znq r → Zmo (Zgr r) = true → OGs (Zgr r) := by
   intro r
   induction r with
   | nil => intro _ _ _; simp only [Zgr, OGs]
   | cons x r ih =>
    intro h hr hor
    simp only [Znq] at hr
    simp only [Zgr, Zmo, Bool.and_eq_true] at hor
    simp only [Zgr, OGs]
    exact ⟨IH (SizeOf.sizeOf x) (by have := List.sizeOf_lt_of_mem (h x (by simp)); simp; omega) x rfl hr.1 hor.1, ih (fun y hy => h y (by simp [hy])) hr.2 hor.2⟩
  exact this l (fun _ h => h) hj.2 ho
 | map m =>
  unfold JOk at hj
  obtain ⟨ks, l, e, hi, hl, hk, hg⟩ := Zh6 hj.1
  rw [show unJ (.map m) = unM m gMap by unfold unJ; rfl, e] at ho ⊢
  unfold OG
  have ho : Zmo l = true := by unfold Zjg at ho; exact ho
  refine ⟨?_, .inr (.inr (.inr (.inr (.inr (.inr ⟨rfl, rfl, rfl, hi, hl⟩)))))⟩
  refine Ykr fun x hx => ?_
  have hox := ordL_iff.1 ho x hx
  obtain ⟨i, hi⟩ := List.getElem?_of_mem hx
  have hil := (List.getElem?_eq_some_iff.1 hi).1
  obtain ⟨k, hkk⟩ : ∃ k, ks[i]? = some k := ⟨_, List.getElem?_eq_getElem (by omega)⟩
  obtain ⟨j, hj1, hj2⟩ := (hg k x).1 ⟨i, hkk, hi⟩
  rw [← hj2] at hox ⊢
  have hm := Zdc hj1
  refine IH (SizeOf.sizeOf j) ?_ j rfl (Zes hj.2.2 _ hm) hox
  have := List.sizeOf_lt_of_mem hm
  simp at this ⊢
  omega
 | null => rw [show unJ .null = .mk 0 0 0 ByteArray.empty [] [] by unfold unJ; rfl]; unfold OG; exact ⟨by simp only [OGs], .inl ⟨rfl, rfl, rfl, rfl, rfl⟩⟩
 | bool b => rw [show unJ (.bool b) = .mk 1 (if b then 1 else 0) 0 ByteArray.empty [] [] by unfold unJ; rfl]; unfold OG; exact ⟨by simp only [OGs], .inr (.inl ⟨rfl, rfl, rfl, rfl⟩)⟩
 | int b =>
  rw [show unJ (.int b) = .mk 2 b 0 ByteArray.empty [] [] by unfold unJ; rfl] at ho ⊢
  unfold OG
  have ho : (decide (-9007199254740992 ≤ b) && decide (b ≤ 9007199254740992)) = true := by unfold Zjg at ho; exact ho
  simp only [Bool.and_eq_true, decide_eq_true_eq] at ho
  exact ⟨by simp only [OGs], .inr (.inr (.inl ⟨rfl, ho.1, ho.2⟩))⟩
 | flt b =>
  rw [show unJ (.flt b) = .mk 3 0 b ByteArray.empty [] [] by unfold unJ; rfl] at ho ⊢
  unfold OG
  have ho : feq b b = true := by unfold Zjg at ho; exact ho
  exact ⟨by simp only [OGs], .inr (.inr (.inr (.inl ⟨rfl, ho⟩)))⟩
 | str b => rw [show unJ (.str b) = .mk 4 0 0 b [] [] by unfold unJ; rfl]; unfold OG; exact ⟨by simp only [OGs], .inr (.inr (.inr (.inr (.inl ⟨rfl, rfl, rfl, rfl⟩))))⟩
end Go.Proofs.YtgmahieoiifpfaaGreat
end
section
namespace Go.Proofs.YtgmahieoiifpfaaGreat
theorem Zrk (a b : Nat) : Zkf a b = Yl5 a b := by
 unfold Zkf Yl5
 cases FloatKind.f64.format.order a b with
 | none => rfl
 | some o => cases o <;> rfl
theorem Yl8 {a b : ByteArray} (h : blt a b = true) : Zda a b = -1 := by unfold Zda; rw [if_pos h]
theorem Yl7 {a b : ByteArray} (h : blt b a = true) : Zda a b = 1 := by unfold Zda; rw [if_neg (by rw [Zfm h]; simp), if_pos h]
theorem Ycy (a : ByteArray) : Zda a a = 0 := by unfold Zda; rw [if_neg (by rw [Zbb]; simp), if_neg (by rw [Zbb]; simp)]
theorem Zoj {u : ByteArray} {U : List ByteArray} (h : Zfx (u :: U)) : (∀ b ∈ U, blt u b = true) ∧ Zfx U := List.pairwise_cons.1 h
theorem Ycz : ∀ (ks : List ByteArray) (l : List GV) (ks' : List ByteArray) (l' : List GV) (U : List ByteArray) (i : Nat) (m q : List (ByteArray × JV)), Zfx ks → Zfx ks' → Zfx U → (∀ k, k ∈ U ↔ k ∈ ks ∨ k ∈ ks') → ks.length = l.length → ks'.length = l'.length → i + ks.length = m.length → i + ks'.length = q.length →
  (∀ k ∈ U, ∀ z, Zc0 (ks.zip l) k = some z ↔ ∃ x, lkJ m k = some x ∧ unJ x = z) → (∀ k ∈ U, ∀ z, Zc0 (ks'.zip l') k = some z ↔ ∃ x, lkJ q k = some x ∧ unJ x = z) →
  (∀ k x y, lkJ m k = some x → lkJ q k = some y → Zdo (unJ x) (unJ y) = Zdg x y) → Zch ks l ks' l' = Zjq Zdg m q i U
 | [], l, [], l', U, i, m, q, _, _, _, hU, _, _, _, _, _, _, _ => by
  have : U = [] := List.eq_nil_iff_forall_not_mem.2 fun k hk => by simpa using (hU k).1 hk
  subst this
  simp only [Zch, Zjq]; rfl
 | [], l, b :: r', l', U, i, m, q, _, _, _, hU, _, _, hm, hq, _, _, _ => by
  cases U with
  | nil => have := (hU b).2 (by simp); simp at this
  | cons u U =>
   simp only [Zch, Zjq]
   have e : Zfh Zdg m q i u = -1 := by unfold Zfh; rw [if_pos (by simpa using hm)]
   rw [e, if_neg (by decide)]
   unfold Zbv
   first | (simp; done) | (simp; omega)
 | a :: r, l, [], l', U, i, m, q, _, _, _, hU, hl, _, hm, hq, _, _, _ => by
  cases U with
  | nil => have := (hU a).2 (by simp); simp at this
  | cons u U =>
   have e : Zfh Zdg m q i u = 1 := by
    unfold Zfh
    simp at hm hq
    rw [if_neg (by omega), if_pos (by omega)]
   cases l <;> simp only [Zch, Zjq] <;> rw [e, if_neg (by decide)] <;> unfold Zbv <;> first | (simp; done) | (simp; omega)
 | a :: r, [], b :: r', l', U, i, m, q, _, _, _, _, hl, _, _, _, _, _, _ => by simp at hl
 | a :: r, _ :: _, b :: r', [], U, i, m, q, _, _, _, _, _, hl', _, _, _, _, _ => by simp at hl'
 | a :: r, z :: l, b :: r', z' :: l', U, i, m, q, h1, h2, h3, hU, hl, hl', hm, hq, hv, hv', ih => by
  obtain ⟨h1a, h1b⟩ := Zoj h1
  obtain ⟨h2a, h2b⟩ := Zoj h2
  cases U with
  | nil => have := (hU a).2 (by simp); simp at this
  | cons u U =>
   obtain ⟨h3a, h3b⟩ := Zoj h3
   have him : i ≠ m.length := by simp at hm; omega
   have hiq : i ≠ q.length := by simp at hq; omega
   have hua : u = a ∨ blt u a = true := by
    rcases List.mem_cons.1 ((hU a).2 (by simp)) with h | h
    ·exact .inl h.symm
    ·exact .inr (h3a a h)
   have hub : u = b ∨ blt u b = true := by
    rcases List.mem_cons.1 ((hU b).2 (by simp)) with h | h
    ·exact .inl h.symm
    ·exact .inr (h3a b h)
   have hu := (hU u).1 (by simp)
   have none_m : ∀ k, k ∉ a :: r → k ∈ u :: U → lkJ m k = none := by
    intro k hk hkU
    cases h : lkJ m k with
    | none => rfl
    | some x =>
     have := (hv k hkU (unJ x)).2 ⟨x, h, rfl⟩
     exact absurd (List.of_mem_zip (a := k) (b := unJ x) (Zdc this)).1 hk
   have none_q : ∀ k, k ∉ b :: r' → k ∈ u :: U → lkJ q k = none := by
    intro k hk hkU
    cases h : lkJ q k with
    | none => rfl
    | some x =>
     have := (hv' k hkU (unJ x)).2 ⟨x, h, rfl⟩
     exact absurd (List.of_mem_zip (a := k) (b := unJ x) (Zdc this)).1 hk
   have hcmp : Zch (a :: r) (z :: l) (b :: r') (z' :: l') = if Zda a b ≠ 0 then Zda a b else if Zdo z z' ≠ 0 then Zdo z z' else Zch r l r' l' := by simp only [Zch]
   rw [hcmp]
   simp only [Zjq]
   cases hab : blt a b with
   | true =>
    have e : u = a := by
     rcases hu with h | h
     ·rcases List.mem_cons.1 h with h | h
      ·exact h
      ·rcases hua with e | e
       ·exact e
       ·have := h1a u h; rw [Zfm this] at e; cases e
     ·exfalso
      have hbu : blt a u = true := by
       rcases List.mem_cons.1 h with h | h
       ·rw [h]; exact hab
       ·exact Zca hab (h2a u h)
      rcases hua with e | e
      ·rw [e, Zbb] at hbu; cases hbu
      ·rw [Zfm hbu] at e; cases e
    subst e
    obtain ⟨x, hx, _⟩ := (hv u (by simp) z).1 (by simp [Zc0])
    have hn := none_q u (fun h => by
     rcases List.mem_cons.1 h with h | h
     ·rw [h, Zbb] at hab; cases hab
     ·have := Zca hab (h2a u h); rw [Zbb] at this; cases this) (by simp)
    have e : Zfh Zdg m q i u = -1 := by unfold Zfh; rw [if_neg him, if_neg hiq, hx, hn]
    rw [Yl8 hab, if_pos (by decide), e, if_neg (by decide)]
   | false =>
    cases hba : blt b a with
    | true =>
     have e : u = b := by
      rcases hu with h | h
      ·exfalso
       have hbu : blt b u = true := by
        rcases List.mem_cons.1 h with h | h
        ·rw [h]; exact hba
        ·exact Zca hba (h1a u h)
       rcases hub with e | e
       ·rw [e, Zbb] at hbu; cases hbu
       ·rw [Zfm hbu] at e; cases e
      ·rcases List.mem_cons.1 h with h | h
       ·exact h
       ·rcases hub with e | e
        ·exact e
        ·have := h2a u h; rw [Zfm this] at e; cases e
     subst e
     have hn := none_m u (fun h => by
      rcases List.mem_cons.1 h with h | h
      ·rw [h, Zbb] at hba; cases hba
      ·have := Zca hba (h1a u h); rw [Zbb] at this; cases this) (by simp)
     have e : Zfh Zdg m q i u = 1 := by unfold Zfh; rw [if_neg him, if_neg hiq, hn]
     rw [Yl7 hba, if_pos (by decide), e, if_neg (by decide)]
    | false =>
     have e0 : a = b := Zf8 hab hba
     subst e0
     have e : u = a := by
      rcases hua with e | e
      ·exact e
      ·exfalso
       rcases hu with h | h
       ·rcases List.mem_cons.1 h with h | h
        ·rw [h, Zbb] at e; cases e
        ·have := h1a u h; rw [Zfm this] at e; cases e
       ·rcases List.mem_cons.1 h with h | h
        ·rw [h, Zbb] at e; cases e
        ·have := h2a u h; rw [Zfm this] at e; cases e
     subst e
     obtain ⟨x, hx, ex⟩ := (hv u (by simp) z).1 (by simp [Zc0])
     obtain ⟨y, hy, ey⟩ := (hv' u (by simp) z').1 (by simp [Zc0])
     have e : Zfh Zdg m q i u = Zdg x y := by unfold Zfh; rw [if_neg him, if_neg hiq, hx, hy]
     have e2 : Zdo z z' = Zdg x y := by rw [← ex, ← ey]; exact ih u x y hx hy
     rw [Ycy, if_neg (by simp), e, e2]
     by_cases hc : Zdg x y = 0
     ·rw [if_neg (by simp [hc]), if_pos hc]
      have hne : ∀ k ∈ U, u ≠ k := fun k hk e => by have := h3a k hk; rw [← e, Zbb] at this; cases this
      refine Ycz r l r' l' U (i + 1) m q h1b h2b h3b (fun k => ⟨fun hk => ?_, fun hk => ?_⟩) (by simpa using hl) (by simpa using hl') (by simp at hm; omega) (by simp at hq; omega) (fun k hk w => ?_) (fun k hk w => ?_) ih
      ·rcases (hU k).1 (by simp [hk]) with h | h
       ·rcases List.mem_cons.1 h with h | h
        ·exact absurd h.symm (hne k hk)
        ·exact .inl h
       ·rcases List.mem_cons.1 h with h | h
        ·exact absurd h.symm (hne k hk)
        ·exact .inr h
      ·have hmem : k ∈ u :: U := (hU k).2 (hk.imp (by simp_all) (by simp_all))
       rcases List.mem_cons.1 hmem with h | h
       ·exfalso
        subst h
        rcases hk with hk | hk
        ·have := h1a k hk; rw [Zbb] at this; cases this
        ·have := h2a k hk; rw [Zbb] at this; cases this
       ·exact h
      ·have := hv k (by simp [hk]) w
       simp only [List.zip_cons_cons, Zc0, if_neg (hne k hk)] at this
       exact this
      ·have := hv' k (by simp [hk]) w
       simp only [List.zip_cons_cons, Zc0, if_neg (hne k hk)] at this
       exact this
     ·rw [if_pos hc, if_neg hc]
theorem Zx4 : ∀ (b a : List JV), (∀ y ∈ b, ∀ x, JOk x → JOk y → Zdo (unJ x) (unJ y) = Zdg x y) → Znq a → Znq b → Zdr (Zgr a) (Zgr b) = Zga Zdg a b
 | [], [], _, _, _ => by simp only [Zgr, Zdr, Zga]; rfl
 | [], x :: a, _, _, _ => by
  simp only [Zgr, Zdr, Zga]
  unfold Zbv
  first | (simp; done) | (simp; omega)
 | y :: b, [], _, _, _ => by
  simp only [Zgr, Zdr, Zga]
  unfold Zbv
  first | (simp; done) | (simp; omega)
 | y :: b, x :: a, ih, ha, hb => by
  simp only [Znq] at ha hb
  simp only [Zgr, Zdr, Zga]
  rw [ih y (by simp) x ha.1 hb.1, Zx4 b a (fun z hz => ih z (by simp [hz])) ha.2 hb.2]
  by_cases h : Zdg x y = 0
  ·rw [if_neg (by simp [h]), if_pos h]
  ·rw [if_pos h, if_neg h]
theorem Yfy (j : JV) : Zbt (unJ j) = (Zk7 j : Int) := by
 cases j
 case map m =>
  obtain ⟨ks, l, e, _⟩ := Zb4 m gMap Zbg
  rw [show unJ (.map m) = unM m gMap by unfold unJ; rfl, e]; rfl
 all_goals (unfold unJ; rfl)
theorem Ycx {x y : GV} (h : Zbv (Zbt x) (Zbt y) ≠ 0) : Zdo x y = Zbv (Zbt x) (Zbt y) := by
 cases x; cases y
 simp only [Zdo]
 rw [if_pos h]
theorem Ycq {j k : JV} (h : Zk7 j ≠ Zk7 k) : Zdg j k = if Zk7 j < Zk7 k then -1 else 1 := by
 cases j <;> cases k <;> first | exact absurd rfl h | (unfold Zdg; rfl) | (simp only [Zdg])
theorem Zkg {k n : Int} {f : Nat} {s : ByteArray} {ks : List ByteArray} {l : List GV} {k' n' : Int} {f' : Nat} {s' : ByteArray} {ks' : List ByteArray} {l' : List GV} (r : Int) (h : Zbt (.mk k n f s ks l) = r) (h' : Zbt (.mk k' n' f' s' ks' l') = r) :
  Zdo (.mk k n f s ks l) (.mk k' n' f' s' ks' l') = if r = 0 then (if k = 2 ∧ k' = 2 then Zbv n n' else Zkf (asF (.mk k n f s ks l)) (asF (.mk k' n' f' s' ks' l'))) else if r = 1 then Zda s s' else if r = 2 then Zbv n n' else if r = 3 then Zdr l l' else if r = 4 then Zch ks l ks' l' else 0 := by
 simp only [Zdo]
 rw [h, h', if_neg (by unfold Zbv; simp)]
theorem Zik : ∀ (k j : JV), JOk j → JOk k → Zdo (unJ j) (unJ k) = Zdg j k := by
 intro k
 induction hk : SizeOf.sizeOf k using Nat.strongRecOn generalizing k with
 | _ n IH =>
 subst hk
 intro j hj hok
 by_cases hr : Zk7 j = Zk7 k
 rotate_left
 ·have h1 := Yfy j
  have h2 := Yfy k
  have h3 : Zbv (Zbt (unJ j)) (Zbt (unJ k)) = if Zk7 j < Zk7 k then -1 else 1 := by
   rw [h1, h2]
   unfold Zbv
   by_cases h : Zk7 j < Zk7 k
   ·rw [if_pos (by omega), if_pos h]
   ·rw [if_neg (by omega), if_pos (by omega), if_neg h]
  rw [Ycq hr, ← h3]
  exact Ycx (by rw [h3]; split <;> decide)
 cases j <;> cases k <;> first | (exfalso; simp [Zk7] at hr; done) | skip
 case null.null => rw [show unJ .null = .mk 0 0 0 ByteArray.empty [] [] by unfold unJ; rfl, Zkg 5 rfl rfl]; unfold Zdg; rfl
 case bool.bool a b => rw [show unJ (.bool a) = .mk 1 (if a then 1 else 0) 0 ByteArray.empty [] [] by unfold unJ; rfl, show unJ (.bool b) = .mk 1 (if b then 1 else 0) 0 ByteArray.empty [] [] by unfold unJ; rfl, Zkg 2 rfl rfl]; unfold Zdg; cases a <;> cases b <;> rfl
 case int.int a b => rw [show unJ (.int a) = .mk 2 a 0 ByteArray.empty [] [] by unfold unJ; rfl, show unJ (.int b) = .mk 2 b 0 ByteArray.empty [] [] by unfold unJ; rfl, Zkg 0 rfl rfl, if_pos rfl, if_pos ⟨rfl, rfl⟩]; unfold Zdg; rfl
 case int.flt a b => rw [show unJ (.int a) = .mk 2 a 0 ByteArray.empty [] [] by unfold unJ; rfl, show unJ (.flt b) = .mk 3 0 b ByteArray.empty [] [] by unfold unJ; rfl, Zkg 0 rfl rfl, if_pos rfl, if_neg (by decide), Zrk]; unfold Zdg; rfl
 case flt.int a b => rw [show unJ (.int b) = .mk 2 b 0 ByteArray.empty [] [] by unfold unJ; rfl, show unJ (.flt a) = .mk 3 0 a ByteArray.empty [] [] by unfold unJ; rfl, Zkg 0 rfl rfl, if_pos rfl, if_neg (by decide), Zrk]; unfold Zdg; rfl
 case flt.flt a b => rw [show unJ (.flt a) = .mk 3 0 a ByteArray.empty [] [] by unfold unJ; rfl, show unJ (.flt b) = .mk 3 0 b ByteArray.empty [] [] by unfold unJ; rfl, Zkg 0 rfl rfl, if_pos rfl, if_neg (by decide), Zrk]; unfold Zdg; rfl
 case str.str a b => rw [show unJ (.str a) = .mk 4 0 0 a [] [] by unfold unJ; rfl, show unJ (.str b) = .mk 4 0 0 b [] [] by unfold unJ; rfl, Zkg 1 rfl rfl]; unfold Zdg; rfl
 case list.list a b =>
  unfold JOk at hj hok
  rw [show unJ (.list a) = .mk 5 0 0 ByteArray.empty [] (Zgr a) by unfold unJ; rfl, show unJ (.list b) = .mk 5 0 0 ByteArray.empty [] (Zgr b) by unfold unJ; rfl, Zkg 3 rfl rfl, Zte]
  show Zdr (Zgr a) (Zgr b) = _
  exact Zx4 b a (fun y hy x hx hy' => IH (SizeOf.sizeOf y) (by have := List.sizeOf_lt_of_mem hy; simp; omega) y rfl x hx hy') hj.2 hok.2
 case map.map m q =>
  unfold JOk at hj hok
  obtain ⟨ks, l, e1, hi, hl, hk, hg⟩ := Zh6 hj.1
  obtain ⟨ks', l', e2, hi', hl', hk', hg'⟩ := Zh6 hok.1
  rw [show unJ (.map m) = unM m gMap by unfold unJ; rfl, show unJ (.map q) = unM q gMap by unfold unJ; rfl, e1, e2, Zkg 4 rfl rfl, Zxx]
  show Zch ks l ks' l' = _
  have len : ∀ {m : List (ByteArray × JV)} {ks : List ByteArray}, (m.map (·.1)).Nodup → Zfx ks → (∀ k, k ∈ ks ↔ k ∈ m.map (·.1)) → ks.length = m.length := by
   intro m ks hm hi hk
   have h1 := Ze3 (Zwq hi) (fun x hx => (hk x).1 hx)
   have h2 := Ze3 hm (fun x hx => (hk x).2 hx)
   simp only [List.length_map] at h1 h2
   omega
  have n1 := len hj.1 hi hk
  have n2 := len hok.1 hi' hk'
  have hz : ∀ {m : List (ByteArray × JV)} {ks : List ByteArray} {l : List GV}, ks.length = l.length → Zfx ks → (∀ k x, (∃ i : Nat, ks[i]? = some k ∧ l[i]? = some x) ↔ ∃ j, Zc0 m k = some j ∧ unJ j = x) → ∀ k z, Zc0 (ks.zip l) k = some z ↔ ∃ x, lkJ m k = some x ∧ unJ x = z := fun hl hi hg k z => by
   rw [Yg6 hl hi, hg, Zhu]
  have main := Ycz ks l ks' l' (Zld m q) 0 m q hi hi' (Zpk m q) (fun k => by rw [Zq4, hk, hk']) hl hl' (by omega) (by omega) (fun k _ z => hz hl hi hg k z) (fun k _ z => hz hl' hi' hg' k z) (fun k x y hx hy => by
   rw [Zhu] at hx hy
   have hy' := Zdc hy
   refine IH (SizeOf.sizeOf y) ?_ y rfl x (Zes hj.2.2 _ (Zdc hx)) (Zes hok.2.2 _ hy')
   have := List.sizeOf_lt_of_mem hy'
   simp at this ⊢
   omega)
  unfold Yct
  by_cases h0 : m.length = 0 ∧ q.length = 0
  ·rw [if_pos h0]
   have e3 : ks = [] := List.eq_nil_of_length_eq_zero (by omega)
   have e4 : ks' = [] := List.eq_nil_of_length_eq_zero (by omega)
   subst e3 e4
   simp only [Zch]; rfl
  ·rw [if_neg h0]; exact main
end Go.Proofs.YtgmahieoiifpfaaGreat
end
section
namespace Go.Proofs.YtgmahieoiifpfaaGreat
theorem Zdh {k n : Int} {f : Nat} {s : ByteArray} {ks : List ByteArray} {l : List GV} {k' n' : Int} {f' : Nat} {s' : ByteArray} {ks' : List ByteArray} {l' : List GV} (h : (Zby (.mk k n f s ks l) && Zby (.mk k' n' f' s' ks' l')) = false) :
  eqP (.mk k n f s ks l) (.mk k' n' f' s' ks' l') = (decide (k = k') && (decide (n = n') && (decide (s = s') && (decide (ks = ks') && Zh7 l l')))) := by
 unfold eqP; rw [if_neg (by rw [h]; simp)]
theorem Ydj : ∀ (b a : List JV), (∀ y ∈ b, ∀ x, JOk x → JOk y → eqP (unJ x) (unJ y) = eqJ x y) → Znq a → Znq b → Zh7 (Zgr a) (Zgr b) = Zna a b
 | [], [], _, _, _ => by simp only [Zgr, Zh7, Zna]
 | [], _ :: _, _, _, _ => by simp only [Zgr, Zh7, Zna]
 | _ :: _, [], _, _, _ => by simp only [Zgr, Zh7, Zna]
 | y :: b, x :: a, ih, ha, hb => by
  simp only [Znq] at ha hb
  simp only [Zgr, Zh7, Zna]
  rw [ih y (by simp) x ha.1 hb.1, Ydj b a (fun z hz => ih z (by simp [hz])) ha.2 hb.2]
theorem Zyi (m : List (ByteArray × JV)) : ∀ q : List (ByteArray × JV), Ydh m q = true ↔ ∀ y ∈ q, ∃ x, Zc0 m y.1 = some x ∧ eqJ x y.2 = true
 | [] => by simp [Ydh]
 | y :: q => by
  unfold Ydh
  rw [Bool.and_eq_true, Zyi m q, Zhu]
  constructor
  ·rintro ⟨h1, h2⟩ z hz
   rcases List.mem_cons.1 hz with rfl | hz
   ·cases hg : Zc0 m z.1 with
    | none => rw [hg] at h1; cases h1
    | some x => rw [hg] at h1; exact ⟨x, rfl, h1⟩
   ·exact h2 z hz
  ·intro h
   obtain ⟨x, hx, he⟩ := h y (by simp)
   exact ⟨by rw [hx]; exact he, fun z hz => h z (by simp [hz])⟩
theorem Yqm (m q : List (ByteArray × JV)) (ih : ∀ y ∈ q, ∀ x, JOk x → JOk y.2 → eqP (unJ x) (unJ y.2) = eqJ x y.2) (hm : JOk (.map m)) (hq : JOk (.map q)) : eqP (unJ (.map m)) (unJ (.map q)) = eqJ (.map m) (.map q) := by
 unfold JOk at hm hq
 obtain ⟨ks, l, e1, hi, hl, hk, hg⟩ := Zh6 hm.1
 obtain ⟨ks', l', e2, hi', hl', hk', hg'⟩ := Zh6 hq.1
 have hJm : ∀ {k j}, Zc0 m k = some j → JOk j := fun h => Zes hm.2.2 _ (Zdc h)
 have hJq : ∀ {k j}, Zc0 q k = some j → JOk j := fun h => Zes hq.2.2 _ (Zdc h)
 rw [show unJ (.map m) = unM m gMap by unfold unJ; rfl, show unJ (.map q) = unM q gMap by unfold unJ; rfl, e1, e2, Zdh (by simp [Zby, GV.kind]), show eqJ (.map m) (.map q) = (Nat.beq m.length q.length && Ydh m q) by unfold eqJ; rfl]
 simp only [decide_true, Bool.true_and]
 rw [Bool.eq_iff_iff]
 simp only [Bool.and_eq_true, decide_eq_true_eq, Zyi]
 constructor
 ·rintro ⟨rfl, h2⟩
  have hmm : ∀ k, k ∈ m.map (·.1) ↔ k ∈ q.map (·.1) := fun k => (hk k).symm.trans (hk' k)
  have l1 := Ze3 hm.1 (fun x hx => (hmm x).1 hx)
  have l2 := Ze3 hq.1 (fun x hx => (hmm x).2 hx)
  simp only [List.length_map] at l1 l2
  refine ⟨by rw [show m.length = q.length by omega]; simp, fun y hy => ?_⟩
  have hgy := Zgd hq.1 (show (y.1, y.2) ∈ q from hy)
  obtain ⟨i, h3, h4⟩ := (hg' y.1 (unJ y.2)).2 ⟨y.2, hgy, rfl⟩
  have hlt := (List.getElem?_eq_some_iff.1 h3).1
  have h5 : l[i]? = some l[i] := List.getElem?_eq_getElem (hl ▸ hlt)
  obtain ⟨x, h6, h7⟩ := (hg y.1 l[i]).1 ⟨i, h3, h5⟩
  refine ⟨x, h6, ?_⟩
  rw [← ih y hy x (hJm h6) (hJq hgy), h7]
  exact Yib h2 i _ _ h5 h4
 ·rintro ⟨h1, h2⟩
  have hlen := Nat.eq_of_beq_eq_true h1
  have hsub : ∀ k ∈ q.map (·.1), k ∈ m.map (·.1) := fun k hk => by
   obtain ⟨y, hy, rfl⟩ := List.mem_map.1 hk
   obtain ⟨x, hx, _⟩ := h2 y hy
   exact List.mem_map_of_mem (f := (·.1)) (Zdc hx)
  have hsub' := Yep hq.1 hsub (by simp [hlen])
  have ek : ks = ks' := Zr0 hi hi' fun k => (hk k).trans ⟨fun h => (hk' k).2 (hsub' k h), fun h => hsub k ((hk' k).1 h)⟩
  subst ek
  refine ⟨rfl, Zn3 (by omega) fun i x y hx hy => ?_⟩
  have hlt : i < ks.length := by rw [hl]; exact (List.getElem?_eq_some_iff.1 hx).1
  have hki : ks[i]? = some ks[i] := List.getElem?_eq_getElem hlt
  obtain ⟨x0, h3, rfl⟩ := (hg ks[i] x).1 ⟨i, hki, hx⟩
  obtain ⟨y0, h4, rfl⟩ := (hg' ks[i] y).1 ⟨i, hki, hy⟩
  obtain ⟨x1, h5, h6⟩ := h2 (ks[i], y0) (Zdc h4)
  have h5 : Zc0 m ks[i] = some x1 := h5
  rw [h3] at h5
  cases h5
  rw [ih (ks[i], y0) (Zdc h4) x0 (hJm h3) (hJq h4)]
  exact h6
theorem Zyq : ∀ (k j : JV), JOk j → JOk k → eqP (unJ j) (unJ k) = eqJ j k
 | .list b, .list a, ha, hb => by
  unfold JOk at ha hb
  rw [show unJ (.list a) = .mk 5 0 0 ByteArray.empty [] (Zgr a) by unfold unJ; rfl, show unJ (.list b) = .mk 5 0 0 ByteArray.empty [] (Zgr b) by unfold unJ; rfl, Zdh (by simp [Zby, GV.kind]), show eqJ (.list a) (.list b) = Zna a b by unfold eqJ; rfl]
  simp only [decide_true, Bool.true_and]
  exact Ydj b a (fun y hy x hx hy' => Zyq y x hx hy') ha.2 hb.2
 | .map q, .map m, ha, hb => Yqm m q (fun y hy x hx hy' => Zyq y.2 x hx hy') ha hb
 | .null, j, _, _ => by
  cases j <;> simp only [unJ, Zdi, gv, eqJ]
  case map => rename_i m _h; obtain ⟨ks, l, e, _⟩ := Zb4 m gMap Zbg; rw [e, Zdh (by simp [Zby, GV.kind])]; simp
  all_goals (rw [Zdh (by simp [Zby, GV.kind])]; simp [Zh7])
 | .bool b, j, _, _ => by
  cases j <;> simp only [unJ, Zdi, gv, eqJ]
  case map => rename_i m _h; obtain ⟨ks, l, e, _⟩ := Zb4 m gMap Zbg; rw [e, Zdh (by simp [Zby, GV.kind])]; simp
  case bool => rename_i a _h; rw [Zdh (by simp [Zby, GV.kind])]; cases a <;> cases b <;> simp [Zh7]
  all_goals (rw [Zdh (by simp [Zby, GV.kind])]; simp [Zh7])
 | .int n, j, _, _ => by
  cases j <;> simp only [unJ, Zdi, gv, eqJ]
  case map => rename_i m _h; obtain ⟨ks, l, e, _⟩ := Zb4 m gMap Zbg; rw [e, Zdh (by simp [Zby, GV.kind])]; simp
  case int => simp [eqP, Zby, GV.kind]
  case flt => simp [eqP, Zby, GV.kind, asF, GV.n, GV.f]
  all_goals (rw [Zdh (by simp [Zby, GV.kind])]; simp [Zh7])
 | .flt n, j, _, _ => by
  cases j <;> simp only [unJ, Zdi, gv, eqJ]
  case map => rename_i m _h; obtain ⟨ks, l, e, _⟩ := Zb4 m gMap Zbg; rw [e, Zdh (by simp [Zby, GV.kind])]; simp
  case int => simp [eqP, Zby, GV.kind, asF, GV.n, GV.f]
  case flt => simp [eqP, Zby, GV.kind, asF, GV.n, GV.f]
  all_goals (rw [Zdh (by simp [Zby, GV.kind])]; simp [Zh7])
 | .str n, j, _, _ => by
  cases j <;> simp only [unJ, Zdi, gv, eqJ]
  case map => rename_i m _h; obtain ⟨ks, l, e, _⟩ := Zb4 m gMap Zbg; rw [e, Zdh (by simp [Zby, GV.kind])]; simp
  all_goals (rw [Zdh (by simp [Zby, GV.kind])]; simp [Zh7])
 | .list b, .null, _, _ => by simp only [unJ, Zdi, gv, eqJ]; rw [Zdh (by simp [Zby, GV.kind])]; simp
 | .list b, .bool _, _, _ => by simp only [unJ, Zdi, gv, eqJ]; rw [Zdh (by simp [Zby, GV.kind])]; simp
 | .list b, .int _, _, _ => by simp only [unJ, Zdi, gv, eqJ]; rw [Zdh (by simp [Zby, GV.kind])]; simp
 | .list b, .flt _, _, _ => by simp only [unJ, Zdi, gv, eqJ]; rw [Zdh (by simp [Zby, GV.kind])]; simp
 | .list b, .str _, _, _ => by simp only [unJ, Zdi, gv, eqJ]; rw [Zdh (by simp [Zby, GV.kind])]; simp
 | .list b, .map m, _, _ => by simp only [unJ, Zdi, gv, eqJ]; obtain ⟨ks, l, e, _⟩ := Zb4 m gMap Zbg; rw [e, Zdh (by simp [Zby, GV.kind])]; simp
 | .map q, .null, _, _ => by simp only [unJ, Zdi, gv, eqJ]; obtain ⟨ks, l, e, _⟩ := Zb4 q gMap Zbg; rw [e, Zdh (by simp [Zby, GV.kind])]; simp
 | .map q, .bool _, _, _ => by simp only [unJ, Zdi, gv, eqJ]; obtain ⟨ks, l, e, _⟩ := Zb4 q gMap Zbg; rw [e, Zdh (by simp [Zby, GV.kind])]; simp
 | .map q, .int _, _, _ => by simp only [unJ, Zdi, gv, eqJ]; obtain ⟨ks, l, e, _⟩ := Zb4 q gMap Zbg; rw [e, Zdh (by simp [Zby, GV.kind])]; simp
 | .map q, .flt _, _, _ => by simp only [unJ, Zdi, gv, eqJ]; obtain ⟨ks, l, e, _⟩ := Zb4 q gMap Zbg; rw [e, Zdh (by simp [Zby, GV.kind])]; simp
 | .map q, .str _, _, _ => by simp only [unJ, Zdi, gv, eqJ]; obtain ⟨ks, l, e, _⟩ := Zb4 q gMap Zbg; rw [e, Zdh (by simp [Zby, GV.kind])]; simp
 | .map q, .list _, _, _ => by simp only [unJ, Zdi, gv, eqJ]; obtain ⟨ks, l, e, _⟩ := Zb4 q gMap Zbg; rw [e, Zdh (by simp [Zby, GV.kind])]; simp
termination_by k => SizeOf.sizeOf k
decreasing_by
 all_goals simp_wf
 ·have := List.sizeOf_lt_of_mem hy; omega
 ·have := List.sizeOf_lt_of_mem hy
  obtain ⟨y1, y2⟩ := y
  simp at this ⊢
  omega
end Go.Proofs.YtgmahieoiifpfaaGreat
end
section
namespace Go.Proofs.YtgmahieoiifpfaaGreat
section
variable {α β : Type}
def Zb7 (c : α → α → Int) : List α → List α → Int
 | [], [] => 0
 | [], _ :: _ => -1
 | _ :: _, [] => 1
 | x :: r, y :: q => lx (c x y) (Zb7 c r q)
theorem Zbs (c : α → α → Int) (x y : α) (r q : List α) : Zb7 c (x :: r) (y :: q) = lx (c x y) (Zb7 c r q) := rfl
theorem Yga {c : α → α → Int} : ∀ {a b : List α}, (∀ x ∈ a, ∀ y ∈ b, rng (c x y)) → rng (Zb7 c a b)
 | [], [], _ => .inr (.inl rfl)
 | [], _ :: _, _ => .inl rfl
 | _ :: _, [], _ => .inr (.inr rfl)
 | x :: r, y :: q, h => Zgz (h x (by simp) y (by simp)) (Yga fun u hu v hv => h u (by simp [hu]) v (by simp [hv]))
theorem Ygu {c : α → α → Int} : ∀ {a b : List α}, (∀ x ∈ a, ∀ y ∈ b, c y x = - c x y) → Zb7 c b a = - Zb7 c a b
 | [], [], _ => rfl
 | [], _ :: _, _ => rfl
 | _ :: _, [], _ => rfl
 | x :: r, y :: q, h => by
  rw [Zbs, Zbs, h x (by simp) y (by simp), Ygu (a := r) (b := q) fun u hu v hv => h u (by simp [hu]) v (by simp [hv]), Zkv]
theorem Ysf {c : α → α → Int} {P : α → Prop} (T : ∀ x y z, P x → P y → P z → Tri (c x y) (c y z) (c x z)) : ∀ (a b d : List α), (∀ x ∈ a, P x) → (∀ x ∈ b, P x) → (∀ x ∈ d, P x) → Tri (Zb7 c a b) (Zb7 c b d) (Zb7 c a d) := by
 have R : ∀ (a b : List α), (∀ x ∈ a, P x) → (∀ x ∈ b, P x) → rng (Zb7 c a b) := fun a b ha hb => Yga fun x hx y hy => (T x y y (ha x hx) (hb y hy) (hb y hy)).rp
 intro a
 induction a with
 | nil =>
  intro b d ha hb hd
  have h2 := R b d hb hd
  cases b with
  | nil =>
   have e : Zb7 c [] ([] : List α) = 0 := rfl
   have h3 := R [] d ha hd
   unfold rng at h2 h3
   rw [e]
   exact ⟨by omega, h3, h3, by omega, by omega, by omega, by omega⟩
  | cons y q =>
   have e : Zb7 c [] (y :: q) = -1 := rfl
   unfold rng at h2
   cases d with
   | nil =>
    have e2 : Zb7 c [] ([] : List α) = 0 := rfl
    have e3 : Zb7 c (y :: q) ([] : List α) = 1 := rfl
    rw [e, e2, e3]
    exact ⟨by omega, by omega, by omega, by omega, by omega, by omega, by omega⟩
   | cons z t =>
    have e2 : Zb7 c [] (z :: t) = -1 := rfl
    rw [e, e2]
    exact ⟨by omega, h2, by omega, by omega, by omega, by omega, by omega⟩
 | cons x r ih =>
  intro b d ha hb hd
  cases b with
  | nil =>
   have e : Zb7 c (x :: r) ([] : List α) = 1 := rfl
   have h2 := R [] d hb hd
   have h3 := R (x :: r) d ha hd
   unfold rng at h2 h3
   rw [e]
   cases d with
   | nil =>
    have e2 : Zb7 c ([] : List α) [] = 0 := rfl
    rw [e, e2]
    exact ⟨by omega, by omega, by omega, by omega, by omega, by omega, by omega⟩
   | cons z t =>
    have e2 : Zb7 c [] (z :: t) = -1 := rfl
    rw [e2]
    exact ⟨by omega, by omega, h3, by omega, by omega, by omega, by omega⟩
  | cons y q =>
   cases d with
   | nil =>
    have e2 : Zb7 c (x :: r) ([] : List α) = 1 := rfl
    have e3 : Zb7 c (y :: q) ([] : List α) = 1 := rfl
    have h1 := R (x :: r) (y :: q) ha hb
    unfold rng at h1
    rw [e2, e3]
    exact ⟨h1, by omega, by omega, by omega, by omega, by omega, by omega⟩
   | cons z t =>
    have ha' : ∀ u ∈ r, P u := fun u hu => ha u (by simp [hu])
    have hb' : ∀ u ∈ q, P u := fun u hu => hb u (by simp [hu])
    have hd' : ∀ u ∈ t, P u := fun u hu => hd u (by simp [hu])
    rw [Zbs, Zbs, Zbs]
    exact Zjm (T x y z (ha x (by simp)) (hb y (by simp)) (hd z (by simp))) (R r q ha' hb') (R q t hb' hd') (R r t ha' hd') (fun _ _ => ih q t ha' hb' hd')
theorem cmpLx_zero {c : α → α → Int} : ∀ {a b : List α}, Zb7 c a b = 0 ↔ a.length = b.length ∧ ∀ (i : Nat) (x y : α), a[i]? = some x → b[i]? = some y → c x y = 0
 | [], [] => by simp [Zb7]
 | [], _ :: _ => by simp [Zb7]
 | _ :: _, [] => by simp [Zb7]
 | x :: r, y :: q => by
  rw [Zbs, Zct, cmpLx_zero (a := r) (b := q)]
  constructor
  ·rintro ⟨h, h2, h3⟩
   refine ⟨by simp [h2], fun i u v hu hv => ?_⟩
   cases i with
   | zero => simp at hu hv; subst hu hv; exact h
   | succ i => exact h3 i u v (by simpa using hu) (by simpa using hv)
  ·rintro ⟨h2, h3⟩
   exact ⟨h3 0 x y rfl rfl, by simpa using h2, fun i u v hu hv => h3 (i + 1) u v (by simpa using hu) (by simpa using hv)⟩
theorem Zti {c : α → α → Int} {c' : β → β → Int} (f : β → α) : ∀ {a b : List β}, (∀ x ∈ a, ∀ y ∈ b, c (f x) (f y) = c' x y) → Zb7 c (a.map f) (b.map f) = Zb7 c' a b
 | [], [], _ => rfl
 | [], _ :: _, _ => rfl
 | _ :: _, [], _ => rfl
 | x :: r, y :: q, h => by
  rw [List.map_cons, List.map_cons, Zbs, Zbs, h x (by simp) y (by simp), Zti f fun u hu v hv => h u (by simp [hu]) v (by simp [hv])]
theorem Zlk {c : α → α → Int} : ∀ (k : Nat) {a b : List α}, k ≤ a.length → k ≤ b.length → (∀ (i : Nat) (x y : α), i < k → a[i]? = some x → b[i]? = some y → c x y = 0) → Zb7 c a b = Zb7 c (a.drop k) (b.drop k)
 | 0, a, b, _, _, _ => by simp
 | k + 1, [], _, h, _, _ => by simp at h
 | k + 1, _ :: _, [], _, h, _ => by simp at h
 | k + 1, x :: r, y :: q, h1, h2, h => by
  rw [Zbs, Zce (h 0 x y (by omega) rfl rfl), Zlk k (by simpa using h1) (by simpa using h2) (fun i u v hi hu hv => h (i + 1) u v (by omega) (by simpa using hu) (by simpa using hv))]
  rfl
theorem Zm3 {c : α → α → Int} {k : Nat} {a b : List α} {x y : α} (h : ∀ (i : Nat) (x y : α), i < k → a[i]? = some x → b[i]? = some y → c x y = 0) (hx : a[k]? = some x) (hy : b[k]? = some y) (hn : c x y ≠ 0) : Zb7 c a b = c x y := by
 have h1 := (List.getElem?_eq_some_iff.1 hx).1
 have h2 := (List.getElem?_eq_some_iff.1 hy).1
 rw [Zlk k (by omega) (by omega) h, List.drop_eq_getElem_cons h1, List.drop_eq_getElem_cons h2, Zbs]
 have e1 := (List.getElem?_eq_some_iff.1 hx).2
 have e2 := (List.getElem?_eq_some_iff.1 hy).2
 rw [e1, e2, Zee hn]
theorem Zth {c : α → α → Int} {k : Nat} {a b : List α} (h1 : k ≤ a.length) (h2 : k ≤ b.length) (h : ∀ (i : Nat) (x y : α), i < k → a[i]? = some x → b[i]? = some y → c x y = 0) (hk : k = a.length ∨ k = b.length) : Zb7 c a b = Zbv a.length b.length := by
 rw [Zlk k h1 h2 h]
 rcases hk with hk | hk
 ·rw [hk, List.drop_length]
  cases hb : b.drop a.length with
  | nil =>
   have := congrArg List.length hb
   simp at this
   rw [cmpI_zero.2 (by omega)]; rfl
  | cons y q =>
   have := congrArg List.length hb
   simp at this
   rw [Zf9 (by omega)]; rfl
 ·rw [hk, List.drop_length]
  cases ha : a.drop b.length with
  | nil =>
   have := congrArg List.length ha
   simp at this
   rw [cmpI_zero.2 (by omega)]; rfl
  | cons y q =>
   have := congrArg List.length ha
   simp at this
   rw [Zfa (by omega)]; rfl
def Ze7 (e : α → α → Bool) : List α → List α → Bool
 | [], [] => true
 | x :: r, y :: q => e x y && Ze7 e r q
 | _, _ => false
theorem eqLx_iff {e : α → α → Bool} : ∀ {a b : List α}, Ze7 e a b = true ↔ a.length = b.length ∧ ∀ (i : Nat) (x y : α), a[i]? = some x → b[i]? = some y → e x y = true
 | [], [] => by simp [Ze7]
 | [], _ :: _ => by simp [Ze7]
 | _ :: _, [] => by simp [Ze7]
 | x :: r, y :: q => by
  rw [show Ze7 e (x :: r) (y :: q) = (e x y && Ze7 e r q) from rfl, Bool.and_eq_true, eqLx_iff (a := r) (b := q)]
  constructor
  ·rintro ⟨h, h2, h3⟩
   refine ⟨by simp [h2], fun i u v hu hv => ?_⟩
   cases i with
   | zero => simp at hu hv; subst hu hv; exact h
   | succ i => exact h3 i u v (by simpa using hu) (by simpa using hv)
  ·rintro ⟨h2, h3⟩
   exact ⟨h3 0 x y rfl rfl, by simpa using h2, fun i u v hu hv => h3 (i + 1) u v (by simpa using hu) (by simpa using hv)⟩
theorem Znd {e : α → α → Bool} {a b : List α} (h : a.length ≠ b.length) : Ze7 e a b = false := Bool.eq_false_iff.2 fun h' => h (eqLx_iff.1 h').1
theorem Zlo {e : α → α → Bool} {a b : List α} {i : Nat} {x y : α} (hx : a[i]? = some x) (hy : b[i]? = some y) (h : e x y = false) : Ze7 e a b = false := Bool.eq_false_iff.2 fun h' => by rw [(eqLx_iff.1 h').2 i x y hx hy] at h; cases h
theorem Znb {e : α → α → Bool} {a b : List α} (hl : a.length = b.length) (h : ∀ (i : Nat) (x y : α), a[i]? = some x → b[i]? = some y → e x y = true) : Ze7 e a b = true := eqLx_iff.2 ⟨hl, h⟩
theorem Zyk {e : α → α → Bool} {e' : β → β → Bool} (f : β → α) : ∀ {a b : List β}, (∀ x ∈ a, ∀ y ∈ b, e (f x) (f y) = e' x y) → Ze7 e (a.map f) (b.map f) = Ze7 e' a b
 | [], [], _ => rfl
 | [], _ :: _, _ => rfl
 | _ :: _, [], _ => rfl
 | x :: r, y :: q, h => by
  show (e (f x) (f y) && Ze7 e (r.map f) (q.map f)) = (e' x y && Ze7 e' r q)
  rw [h x (by simp) y (by simp), Zyk f fun u hu v hv => h u (by simp [hu]) v (by simp [hv])]
theorem Znc {e : α → α → Bool} {c : α → α → Int} {a b : List α} (h : ∀ x ∈ a, ∀ y ∈ b, e x y = true ↔ c x y = 0) : Ze7 e a b = true ↔ Zb7 c a b = 0 := by
 rw [eqLx_iff, cmpLx_zero]
 constructor
 ·rintro ⟨h1, h2⟩
  exact ⟨h1, fun i x y hx hy => (h x (List.mem_of_getElem? hx) y (List.mem_of_getElem? hy)).1 (h2 i x y hx hy)⟩
 ·rintro ⟨h1, h2⟩
  exact ⟨h1, fun i x y hx hy => (h x (List.mem_of_getElem? hx) y (List.mem_of_getElem? hy)).2 (h2 i x y hx hy)⟩
end
def OJ (j : JV) : Prop := JOk j ∧ OG (unJ j)
theorem Yse {x y z : JV} (hx : OJ x) (hy : OJ y) (hz : OJ z) : Tri (Zdg x y) (Zdg y z) (Zdg x z) := by
 rw [← Zik _ _ hx.1 hy.1, ← Zik _ _ hy.1 hz.1, ← Zik _ _ hx.1 hz.1]
 exact Ytj _ _ _ hx.2 hy.2 hz.2
theorem Yf9 {x y : JV} (hx : JOk x) (hy : JOk y) : rng (Zdg x y) := by
 rw [← Zik _ _ hx hy]
 exact Zix _ _
theorem Yll {x y : JV} (hx : JOk x) (hy : JOk y) : Zdg y x = - Zdg x y := by
 rw [← Zik _ _ hx hy, ← Zik _ _ hy hx]
 exact Yrz _ _
theorem Ydg {x y : JV} (hx : OJ x) (hy : OJ y) : eqJ x y = true ↔ Zdg x y = 0 := by
 rw [← Zik _ _ hx.1 hy.1, ← Zyq _ _ hx.1 hy.1]
 exact Ymx _ _ hx.2 hy.2
def Zhq (f g : ByteArray × JV) : Int := lx (Zda f.1 g.1) (Zdg f.2 g.2)
def Yg8 (f g : ByteArray × JV) : Bool := decide (f.1 = g.1) && eqJ f.2 g.2
def Yf8 : PEV → Int
 | .name _ => 0
 | .key _ => 1
 | .val _ => 2
 | .idx _ => 3
def Zny : PEV → PEV → Int
 | .name a, .name b => Zda a b
 | .key a, .key b => Zb7 Zhq a b
 | .val a, .val b => Zdg a b
 | .idx a, .idx b => Zbv a b
 | _, _ => 0
def Zag (p q : PEV) : Int := lx (Zbv (Yf8 p) (Yf8 q)) (Zny p q)
def Zj4 : PEV → PEV → Bool
 | .name a, .name b => decide (a = b)
 | .key a, .key b => Ze7 Yg8 a b
 | .val a, .val b => eqJ a b
 | .idx a, .idx b => decide (a = b)
 | _, _ => false
def JPE : PEV → Prop
 | .key fl => ∀ f ∈ fl, JOk f.2
 | .val j => JOk j
 | _ => True
def OPE : PEV → Prop
 | .key fl => ∀ f ∈ fl, OJ f.2
 | .val j => OJ j
 | _ => True
theorem OPE.j {p : PEV} (h : OPE p) : JPE p := by
 cases p with
 | key fl => exact fun f hf => (h f hf).1
 | val j => exact h.1
 | _ => trivial
theorem Yrx {f g : ByteArray × JV} (h : JOk f.2) (h' : JOk g.2) : rng (Zhq f g) := Zgz (Zh2 _ _) (Yf9 h h')
theorem Ysd {f g k : ByteArray × JV} (hf : OJ f.2) (hg : OJ g.2) (hk : OJ k.2) : Tri (Zhq f g) (Zhq g k) (Zhq f k) :=
 Zjm (Zno _ _ _) (Yf9 hf.1 hg.1) (Yf9 hg.1 hk.1) (Yf9 hf.1 hk.1) (fun _ _ => Yse hf hg hk)
theorem Zj1 {p q : PEV} (hp : JPE p) (hq : JPE q) : rng (Zny p q) := by
 cases p <;> cases q <;> first
  | exact .inr (.inl rfl)
  | exact Zh2 _ _
  | exact Zc5 _ _
  | exact Yf9 hp hq
  | exact Yga fun x hx y hy => Yrx (hp x hx) (hq y hy)
theorem Ysg {p q r : PEV} (hp : OPE p) (hq : OPE q) (hr : OPE r) : Tri (Zag p q) (Zag q r) (Zag p r) := by
 refine Zjm (Zej _ _ _) (Zj1 hp.j hq.j) (Zj1 hq.j hr.j) (Zj1 hp.j hr.j) (fun h1 h2 => ?_)
 rw [cmpI_zero] at h1 h2
 cases p <;> cases q <;> first | (exfalso; revert h1; simp [Yf8]; done) | skip
 all_goals cases r <;> first | (exfalso; revert h2; simp [Yf8]; done) | skip
 ·exact Zno _ _ _
 ·exact Ysf (P := fun f : ByteArray × JV => OJ f.2) (fun x y z => Ysd) _ _ _ hp hq hr
 ·exact Yse hp hq hr
 ·exact Zej _ _ _
theorem Yox {p q : PEV} (hp : JPE p) (hq : JPE q) : Zag q p = - Zag p q := by
 unfold Zag
 have h : Zny q p = - Zny p q := by
  cases p <;> cases q <;> first
   | rfl
   | exact Zgb _ _
   | exact Zdf _ _
   | exact Yll hp hq
   | exact Ygu fun x hx y hy => by unfold Zhq; rw [Zgb x.1, Yll (hp x hx) (hq y hy), Zkv]
 rw [h, Zdf (Yf8 p), Zkv]
theorem Zym {p q : PEV} (hp : OPE p) (hq : OPE q) : Zj4 p q = true ↔ Zag p q = 0 := by
 unfold Zag
 rw [Zct, cmpI_zero]
 cases p <;> cases q <;> first
  | (simp [Zj4, Yf8, Zny]; done)
  | skip
 ·simp [Zj4, Yf8, Zny, cmpS_zero]
 ·show Ze7 Yg8 _ _ = true ↔ _ ∧ Zb7 Zhq _ _ = 0
  rw [Znc (c := Zhq) fun x hx y hy => ?_]
  ·exact ⟨fun h => ⟨rfl, h⟩, fun h => h.2⟩
  ·unfold Yg8 Zhq
   rw [Zct, Bool.and_eq_true, decide_eq_true_eq, cmpS_zero, Ydg (hp x hx) (hq y hy)]
 ·show eqJ _ _ = true ↔ _ ∧ Zdg _ _ = 0
  rw [Ydg hp hq]
  exact ⟨fun h => ⟨rfl, h⟩, fun h => h.2⟩
 ·simp [Zj4, Yf8, Zny, cmpI_zero]
end Go.Proofs.YtgmahieoiifpfaaGreat
end
namespace Go.Proofs.YtgmahieoiifpfaaGreat
open Go.RowKit
def Zea (f : ByteArray × JV) : PD := .agg [.val (.string f.1), dvV f.2]
def Yb3 (fl : List (ByteArray × JV)) : PD := .sl 2 32 (fl.map Zea)
def Za3 : PEV → PD
 | .name s => .agg [.ptr (.val (.string s)), Zlg, Zlg, Zlg]
 | .key fl => .agg [Zlg, .ptr (Yb3 fl), Zlg, Zlg]
 | .val j => .agg [Zlg, Zlg, .ptr (dvV j), Zlg]
 | .idx n => .agg [Zlg, Zlg, Zlg, .ptr (.val (.int .i64 n))]
theorem Yhg {x : EV} (h : Fits (pdE x)) : JPE (Zc2 x) := by
 obtain ⟨w0, F0, v0, h0⟩ := h
 obtain ⟨ak, ck, a, c, c0, c1, c2, c3, c4, c5, e, h1, h2, h3, hk, h5, h6, hl, hv⟩ := Yol h0
 unfold Zc2
 by_cases k1 : x.kind = 1
 ·rw [if_pos k1]
  intro f hf
  unfold flE at hf
  have hm := (List.of_mem_zip hf).2
  obtain ⟨y, hy, ey⟩ := List.mem_map.1 hm
  rw [← ey]
  refine Zk4 y ?_
  rcases hl with hl | ⟨b, o, hb, ha, hvs⟩
  ·rw [hl] at hy; cases hy
  ·obtain ⟨i, hi⟩ := List.getElem?_of_mem hy
   obtain ⟨u, hu, _⟩ := (Zkq _ hvs).at_ (Zff hi)
   exact IsV.gok y (Zpd y hu)
 ·rw [if_neg k1]
  by_cases k2 : x.kind = 2
  ·rw [if_pos k2]; exact Zk4 x.v (IsV.gok x.v hv)
  ·rw [if_neg k2]
   by_cases k3 : x.kind = 3
   ·rw [if_pos k3]; trivial
   ·rw [if_neg k3]; trivial
theorem Zwj (a b : List (ByteArray × JV)) : PCall Tryz.prog 212 [Yb3 a, Yb3 b] (.val (.int .i64 (Zb7 Zhq a b))) := by
 refine Zay fun hfit => ?_
 unfold Yb3 at hfit ⊢
 have b1 := (hfit (.sl 2 32 (a.map Zea)) (by simp)).sl.2.1
 clear hfit
 have la : (a.map Zea).length = a.length := by simp
 have lb : (b.map Zea).length = b.length := by simp
 have ga : ∀ {i : Nat} {f : ByteArray × JV}, a[i]? = some f → (a.map Zea)[((i : Nat) : Int).toNat]? = some (Zea f) := fun h => by simp [h]
 have gb : ∀ {i : Nat} {f : ByteArray × JV}, b[i]? = some f → (b.map Zea)[((i : Nat) : Int).toNat]? = some (Zea f) := fun h => by simp [h]
 rw [la] at b1
 generalize a.map Zea = da at *
 generalize b.map Zea = db at *
 refine Zaa Tryz.func212 rfl Tryz.ntmps212 rfl (fun X => ?_)
 refine wk ?_
 refine Zap (ι := { j : Nat // (j ≤ a.length ∧ j ≤ b.length) ∧ ∀ i x y, i < j → a[i]? = some x → b[i]? = some y → Zhq x y = 0 })
  (fun j => [(0, .dat (.sl 2 32 da)), (1, .dat (.sl 2 32 db)), (5, .dat (.val (.int .i64 (j.1 : Nat))))])
  (fun _ => []) (fun j => a.length - j.1) ⟨0, ⟨Nat.zero_le _, Nat.zero_le _⟩, fun i _ _ h => absurd h (Nat.not_lt_zero i)⟩ id ?_ ?_
 ·exact sb
 rintro ⟨j, ⟨hj, hj'⟩, hall⟩
 have hend : j = a.length ∨ j = b.length → Zb7 Zhq a b = Zbv a.length b.length := fun h => Zth hj hj' hall h
 by_cases hlt : j < a.length
 ·have g1 : decide (((da.length : Nat) : Int) ≤ (j : Int)) = false := decide_eq_false (by omega)
  by_cases hlt' : j < b.length
  ·have g2 : decide (((db.length : Nat) : Int) ≤ (j : Int)) = false := decide_eq_false (by omega)
   obtain ⟨x, hx⟩ : ∃ x, a[j]? = some x := ⟨_, List.getElem?_eq_getElem hlt⟩
   obtain ⟨y, hy⟩ : ∃ y, b[j]? = some y := ⟨_, List.getElem?_eq_getElem hlt'⟩
   have i1 := ga hx
   have i2 := gb hy
   have c1 := Zd8 x.1 y.1
   have c2 := Ztn x.2 y.2
   by_cases hs : Zda x.1 y.1 = 0
   ·have g3 : decide (Zda x.1 y.1 ≠ 0) = false := decide_eq_false (by simp [hs])
    by_cases hv : Zdg x.2 y.2 = 0
    ·have g4 : decide (Zdg x.2 y.2 ≠ 0) = false := decide_eq_false (by simp [hv])
     refine wk ?_
     refine Zae ?_
     refine ⟨⟨j + 1, ⟨by omega, by omega⟩, fun i x' y' hi hx' hy' => ?_⟩, id, by simp only; omega, ?_⟩
     ·by_cases e : i = j
      ·subst e
       rw [hx] at hx'; rw [hy] at hy'
       cases hx'; cases hy'
       unfold Zhq
       rw [Zce hs, hv]
      ·exact hall i x' y' (by omega) hx' hy'
     exact sb
    ·have g4 : decide (Zdg x.2 y.2 ≠ 0) = true := decide_eq_true hv
     have e : Zhq x y = Zdg x.2 y.2 := by unfold Zhq; rw [Zce hs]
     rw [Zm3 hall hx hy (by rw [e]; exact hv), e]
     exact wke
   ·have g3 : decide (Zda x.1 y.1 ≠ 0) = true := decide_eq_true hs
    have e : Zhq x y = Zda x.1 y.1 := by unfold Zhq; rw [Zee hs]
    rw [Zm3 hall hx hy (by rw [e]; exact hs), e]
    exact wke
  ·have g2 : decide (((db.length : Nat) : Int) ≤ (j : Int)) = true := decide_eq_true (by omega)
   rw [hend (.inr (by omega)), Zfa (by omega)]
   exact wke
 ·have g1 : decide (((da.length : Nat) : Int) ≤ (j : Int)) = true := decide_eq_true (by omega)
  by_cases hlt' : j < b.length
  ·have g2 : decide (((db.length : Nat) : Int) ≤ (j : Int)) = false := decide_eq_false (by omega)
   rw [hend (.inl (by omega)), Zf9 (by omega)]
   exact wke
  ·have g2 : decide (((db.length : Nat) : Int) ≤ (j : Int)) = true := decide_eq_true (by omega)
   rw [hend (.inl (by omega)), cmpI_zero.2 (by omega)]
   exact wke
theorem Yaw (a b : List (ByteArray × JV)) : PCall Tryz.prog 241 [Yb3 a, Yb3 b] (.val (.bool (Ze7 Yg8 a b))) := by
 refine Zay fun hfit => ?_
 unfold Yb3 at hfit ⊢
 have b1 := (hfit (.sl 2 32 (a.map Zea)) (by simp)).sl.2.1
 clear hfit
 have la : (a.map Zea).length = a.length := by simp
 have lb : (b.map Zea).length = b.length := by simp
 have ga : ∀ {i : Nat} {f : ByteArray × JV}, a[i]? = some f → (a.map Zea)[((i : Nat) : Int).toNat]? = some (Zea f) := fun h => by simp [h]
 have gb : ∀ {i : Nat} {f : ByteArray × JV}, b[i]? = some f → (b.map Zea)[((i : Nat) : Int).toNat]? = some (Zea f) := fun h => by simp [h]
 rw [la] at b1
 generalize a.map Zea = da at *
 generalize b.map Zea = db at *
 refine Zaa Tryz.func241 rfl Tryz.ntmps241 rfl (fun X => ?_)
 by_cases hl : a.length = b.length
 rotate_left
 ·have g1 : decide (((da.length : Nat) : Int) ≠ ((db.length : Nat) : Int)) = true := decide_eq_true (by omega)
  rw [Znd hl]
  exact wke
 have g1 : decide (((da.length : Nat) : Int) ≠ ((db.length : Nat) : Int)) = false := decide_eq_false (by omega)
 refine wk ?_
 refine Zap (ι := { j : Nat // j ≤ a.length ∧ ∀ i x y, i < j → a[i]? = some x → b[i]? = some y → Yg8 x y = true })
  (fun j => [(0, .dat (.sl 2 32 da)), (1, .dat (.sl 2 32 db)), (12, .dat (.val (.int .i64 ((da.length : Nat) : Int)))), (13, .dat (.val (.int .i64 (j.1 : Nat))))])
  (fun _ => []) (fun j => a.length - j.1) ⟨0, Nat.zero_le _, fun i _ _ h => absurd h (Nat.not_lt_zero i)⟩ id ?_ ?_
 ·exact sb
 rintro ⟨j, hj, hall⟩
 by_cases hlt : j < a.length
 ·have g2 : decide ((j : Int) < ((da.length : Nat) : Int)) = true := decide_eq_true (by omega)
  obtain ⟨x, hx⟩ : ∃ x, a[j]? = some x := ⟨_, List.getElem?_eq_getElem hlt⟩
  obtain ⟨y, hy⟩ : ∃ y, b[j]? = some y := ⟨_, List.getElem?_eq_getElem (by omega)⟩
  have i1 := ga hx
  have i2 := gb hy
  have c2 := Zyr x.2 y.2
  by_cases hs : x.1 = y.1
  ·have g3 : decide (x.1 ≠ y.1) = false := decide_eq_false (by simp [hs])
   have g3' : (!decide (x.1 = y.1)) = false := by simp [hs]
   cases hv : eqJ x.2 y.2 with
   | true =>
    rw [hv] at c2
    refine wk ?_
    refine Zae ?_
    refine ⟨⟨j + 1, by omega, fun i x' y' hi hx' hy' => ?_⟩, id, by simp only; omega, ?_⟩
    ·by_cases e : i = j
     ·subst e
      rw [hx] at hx'; rw [hy] at hy'
      cases hx'; cases hy'
      unfold Yg8
      rw [hv]; simp [hs]
     ·exact hall i x' y' (by omega) hx' hy'
    exact sb
   | false =>
    rw [hv] at c2
    rw [Zlo hx hy (by unfold Yg8; rw [hv]; simp)]
    exact wke
  ·have g3 : decide (x.1 ≠ y.1) = true := decide_eq_true hs
   have g3' : (!decide (x.1 = y.1)) = true := by simp [hs]
   rw [Zlo hx hy (by unfold Yg8; simp [hs])]
   exact wke
 ·have g2 : decide ((j : Int) < ((da.length : Nat) : Int)) = false := decide_eq_false (by omega)
  rw [Znb hl (fun i x y hx hy => hall i x y (by have := (List.getElem?_eq_some_iff.1 hx).1; omega) hx hy)]
  exact wke
theorem Zh0 (p q : PEV) : PCall Tryz.prog 160 [Za3 p, Za3 q] (.val (.int .i64 (Zag p q))) := by
 cases p with
 | name a =>
  cases q with
  | name b =>
   have c1 := Zd8 a b
   have e : Zag (.name a) (.name b) = Zda a b := rfl
   rw [e]
   unfold Za3
   refine Zaa Tryz.func160 rfl Tryz.ntmps160 rfl (fun X => ?_)
   exact wke
  | _ =>
   refine Zaa Tryz.func160 rfl Tryz.ntmps160 rfl (fun X => ?_)
   unfold Za3
   exact wke
 | key a =>
  cases q with
  | key b =>
   have c1 := Zwj a b
   have e : Zag (.key a) (.key b) = Zb7 Zhq a b := rfl
   rw [e]
   unfold Za3
   refine Zaa Tryz.func160 rfl Tryz.ntmps160 rfl (fun X => ?_)
   exact wke
  | _ =>
   refine Zaa Tryz.func160 rfl Tryz.ntmps160 rfl (fun X => ?_)
   unfold Za3
   exact wke
 | val a =>
  cases q with
  | val b =>
   have c1 := Ztn a b
   have e : Zag (.val a) (.val b) = Zdg a b := rfl
   rw [e]
   unfold Za3
   refine Zaa Tryz.func160 rfl Tryz.ntmps160 rfl (fun X => ?_)
   exact wke
  | _ =>
   refine Zaa Tryz.func160 rfl Tryz.ntmps160 rfl (fun X => ?_)
   unfold Za3
   exact wke
 | idx a =>
  cases q with
  | idx b =>
   have e : Zag (.idx a) (.idx b) = Zbv a b := rfl
   rw [e]
   unfold Za3
   refine Zaa Tryz.func160 rfl Tryz.ntmps160 rfl (fun X => ?_)
   by_cases h1 : a < b
   ·have g1 : decide (a < b) = true := decide_eq_true h1
    rw [Zf9 h1]
    exact wke
   ·have g1 : decide (a < b) = false := decide_eq_false h1
    by_cases h2 : a = b
    ·have g2 : decide (a = b) = true := decide_eq_true h2
     rw [cmpI_zero.2 h2]
     exact wke
    ·have g2 : decide (a = b) = false := decide_eq_false h2
     rw [Zfa (by omega)]
     exact wke
  | _ =>
   refine Zaa Tryz.func160 rfl Tryz.ntmps160 rfl (fun X => ?_)
   unfold Za3
   exact wke
theorem Zqu (p q : PEV) : PCall Tryz.prog 220 [Za3 p, Za3 q] (.val (.bool (Zj4 p q))) := by
 cases p with
 | name a =>
  cases q with
  | name b =>
   have e : Zj4 (.name a) (.name b) = decide (a = b) := rfl
   rw [e]
   unfold Za3
   refine Zaa Tryz.func220 rfl Tryz.ntmps220 rfl (fun X => ?_)
   exact wke
  | _ =>
   refine Zaa Tryz.func220 rfl Tryz.ntmps220 rfl (fun X => ?_)
   unfold Za3
   exact wke
 | key a =>
  cases q with
  | key b =>
   have c1 := Yaw a b
   have e : Zj4 (.key a) (.key b) = Ze7 Yg8 a b := rfl
   rw [e]
   unfold Za3
   refine Zaa Tryz.func220 rfl Tryz.ntmps220 rfl (fun X => ?_)
   exact wke
  | _ =>
   refine Zaa Tryz.func220 rfl Tryz.ntmps220 rfl (fun X => ?_)
   unfold Za3
   exact wke
 | val a =>
  cases q with
  | val b =>
   have c1 := Zyr a b
   have e : Zj4 (.val a) (.val b) = eqJ a b := rfl
   rw [e]
   unfold Za3
   refine Zaa Tryz.func220 rfl Tryz.ntmps220 rfl (fun X => ?_)
   exact wke
  | _ =>
   refine Zaa Tryz.func220 rfl Tryz.ntmps220 rfl (fun X => ?_)
   unfold Za3
   exact wke
 | idx a =>
  cases q with
  | idx b =>
   have e : Zj4 (.idx a) (.idx b) = decide (a = b) := rfl
   rw [e]
   unfold Za3
   refine Zaa Tryz.func220 rfl Tryz.ntmps220 rfl (fun X => ?_)
   exact wke
  | _ =>
   refine Zaa Tryz.func220 rfl Tryz.ntmps220 rfl (fun X => ?_)
   unfold Za3
   exact wke
theorem Zgy (p q : PEV) : PCall Tryz.prog 210 [Za3 p, Za3 q] (.val (.bool (decide (Zag p q < 0)))) := by
 have c1 := Zh0 p q
 generalize Zag p q = c at *
 refine Zaa Tryz.func210 rfl Tryz.ntmps210 rfl (fun X => ?_)
 cases p <;> cases q
 all_goals
  unfold Za3 at *
  exact wke
theorem Zw5 (l : List GV) (w : World) (a1 : Option Addr) (c1 : Nat) (hl88 : l.length * 88 ≤ 140737488351232) (hl : l = [] ∨ ∃ b o, Btw 0 w.heap.size b ∧ a1 = some ⟨b, o, none⟩ ∧ IsVs w (Btw 0 w.heap.size) l b o) :
  Calls Tryz.prog 94 #[.slice a1 l.length c1] w fun e w' => e = .returned (.bool (Zmo l)) ∧ Below w.heap.size w w' := by
 go_enter Tryz.func94, Tryz.ntmps94
 go_wp2_with fail
 go_loopw [7] (fun i wr => ∃ k : Nat, k ≤ l.length ∧ i = .int .i64 (k : Nat) ∧ Below w.heap.size w wr ∧ ∀ y ∈ l.take k, Zjg y = true) (fun i _ => l.length - (intOf i).toNat)
 case atStart => exact ⟨0, Nat.zero_le _, rfl, Below.refl _ _, by simp⟩
 case round =>
  obtain ⟨k, hk, rfl, hB, hall⟩ := hrel
  by_cases hlt : k < l.length
  ·obtain ⟨b, o, hb, rfl, hcells⟩ := Zxf hl (by omega)
   obtain ⟨y, hy⟩ : ∃ y, l[k]? = some y := ⟨l[k], by simp [hlt]⟩
   obtain ⟨e0, f0, e1, f1, g0, g1, g2, g3, g4, g5, hyv⟩ := (IsVs.keep (S' := Btw 0 wr.heap.size) (Btw.kept hB) (Btw.mono (Nat.le_refl _) hB.size) l b o hb hcells).cells hy
   have hc := Zw6 y
   have hyA := hyv.alloc_ (.cells #[.int .i64 y.kind, .int .i64 y.n, .float .f64 y.f, .string y.s, .slice e0 y.keys.length f0, .slice e1 y.l.length f1] 27)
   have HY := Lib.hid (And.intro hy (And.intro hall hB))
   have j0 : (0 : Int) ≤ (k : Int) := by omega
   have j1 : (k : Int) < (l.length : Int) := by omega
   have hs := hB.size
   clear hy hall hB hcells hyv
   go_wp2_with (go_at_call 93; (with_reducible refine (hc.use _ _ ?_).mono ?_))
   ·simpa using hyA
   rintro e w2 ⟨rfl, hB2'⟩
   obtain ⟨hy, hall, hB⟩ := HY.out
   have hB2 : Below w.heap.size w w2 := (hB.alloc hs (.cells #[.int .i64 y.kind, .int .i64 y.n, .float .f64 y.f, .string y.s, .slice e0 y.keys.length f0, .slice e1 y.l.length f1] 27)).trans (hB2'.mono (by simp; omega))
   clear g0 g1 g2 g3 g4 g5 hyA hc HY hB2'
   cases ho : Zjg y with
   | false =>
    have hf : Zmo l = false := by
     cases h : Zmo l with
     | false => rfl
     | true => rw [ordL_iff.1 h y (List.mem_of_getElem? hy)] at ho; cases ho
    go_wp2_with fail
    go_ret
    rw [hf]
    exact ⟨rfl, hB2⟩
   | true =>
    have HF := Lib.hid (show ∀ z ∈ l.take (k + 1), Zjg z = true from fun z hz => by
     rw [List.take_add_one, hy] at hz
     rcases List.mem_append.1 hz with hz | hz
     ·exact hall z hz
     ·simp at hz; subst hz; exact ho)
    clear hall hy hB
    go_wp2_with fail
    go_roundw
    case rel => exact ⟨k + 1, hlt, by go_num, hB2, HF.out⟩
    case measure => simp [intOf]; omega
  ·have hkl : k = l.length := by omega
   subst hkl
   have ht : Zmo l = true := ordL_iff.2 (by rw [List.take_length] at hall; exact hall)
   have HT := Lib.hid ht
   clear ht hall
   go_wp2_with fail
   go_ret
   rw [HT.out]
   exact ⟨rfl, hB⟩
def rkE (x : EV) : Int := if x.kind = 1 then 1 else if x.kind = 2 then 2 else if x.kind = 3 then 3 else 0
def kvE (x : EV) : List (ByteArray × GV) := x.keys.zip x.l
def Zn1 (f g : ByteArray × GV) : Int := lx (Zda f.1 g.1) (Zdo (Zat f.2) (Zat g.2))
def Ykz (f g : ByteArray × GV) : Bool := decide (f.1 = g.1) && eqP (Zat f.2) (Zat g.2)
def Yck (x y : EV) : Int := if rkE x = 1 then Zb7 Zn1 (kvE x) (kvE y) else if rkE x = 2 then Zdo (Zat x.v) (Zat y.v) else if rkE x = 3 then Zbv x.n y.n else Zda x.s y.s
def Zcn (x y : EV) : Int := lx (Zbv (rkE x) (rkE y)) (Yck x y)
def eqE (x y : EV) : Bool := if rkE x ≠ rkE y then false else if rkE x = 1 then Ze7 Ykz (kvE x) (kvE y) else if rkE x = 2 then eqP (Zat x.v) (Zat y.v) else if rkE x = 3 then decide (x.n = y.n) else decide (x.s = y.s)
theorem Zgm (x : EV) : (x.kind = 1 ∧ rkE x = 1 ∧ Zc2 x = .key (flE x)) ∨ (x.kind = 2 ∧ rkE x = 2 ∧ Zc2 x = .val (Za2 x.v)) ∨ (x.kind = 3 ∧ rkE x = 3 ∧ Zc2 x = .idx x.n) ∨ (x.kind ≠ 1 ∧ x.kind ≠ 2 ∧ x.kind ≠ 3 ∧ rkE x = 0 ∧ Zc2 x = .name x.s) := by
 unfold rkE Zc2
 by_cases h1 : x.kind = 1
 ·simp [h1]
 ·by_cases h2 : x.kind = 2
  ·simp [h2]
  ·by_cases h3 : x.kind = 3
   ·simp [h3]
   ·simp [h1, h2, h3]
theorem Yj1 (x : EV) : Yf8 (Zc2 x) = rkE x := by
 rcases Zgm x with h | h | h | h
 ·rw [h.2.2, h.2.1]; rfl
 ·rw [h.2.2, h.2.1]; rfl
 ·rw [h.2.2, h.2.1]; rfl
 ·rw [h.2.2.2.2, h.2.2.2.1]; rfl
theorem Zls (x : EV) : flE x = (kvE x).map fun f => (f.1, Za2 f.2) := by
 unfold flE kvE
 rw [List.zip_map_right]
 rfl
theorem Zuw {x : EV} (h : JPE (Zc2 x)) (hk : Zc2 x = .key (flE x)) : ∀ f ∈ kvE x, JOk (Za2 f.2) := by
 rw [hk] at h
 intro f hf
 exact h (f.1, Za2 f.2) (by rw [Zls]; exact List.mem_map.2 ⟨f, hf, rfl⟩)
theorem Ykt {a b : GV} (h1 : JOk (Za2 a)) (h2 : JOk (Za2 b)) : Zdg (Za2 a) (Za2 b) = Zdo (Zat a) (Zat b) := by
 rw [← Zik _ _ h1 h2, Zd9, Zd9]
theorem Yqn {a b : GV} (h1 : JOk (Za2 a)) (h2 : JOk (Za2 b)) : eqJ (Za2 a) (Za2 b) = eqP (Zat a) (Zat b) := by
 rw [← Zyq _ _ h1 h2, Zd9, Zd9]
theorem Zhp {x y : EV} (hx : JPE (Zc2 x)) (hy : JPE (Zc2 y)) : Zag (Zc2 x) (Zc2 y) = Zcn x y := by
 unfold Zag Zcn
 rw [Yj1, Yj1]
 by_cases hr : rkE x = rkE y
 ·rw [Zce (cmpI_zero.2 hr), Zce (cmpI_zero.2 hr)]
  unfold Yck
  rcases Zgm x with h | h | h | h <;> rcases Zgm y with h' | h' | h' | h' <;> first
   | (exfalso; omega)
   | skip
  ·rw [h.2.2, h'.2.2, if_pos h.2.1]
   show Zb7 Zhq _ _ = _
   rw [Zls, Zls]
   exact Zti _ fun f hf g hg => by
    show lx _ (Zdg (Za2 f.2) (Za2 g.2)) = lx _ _
    rw [Ykt (Zuw hx h.2.2 f hf) (Zuw hy h'.2.2 g hg)]
  ·rw [h.2.2, h'.2.2, if_neg (by omega), if_pos h.2.1]
   rw [h.2.2] at hx
   rw [h'.2.2] at hy
   exact Ykt hx hy
  ·rw [h.2.2, h'.2.2, if_neg (by omega), if_neg (by omega), if_pos h.2.1]
   rfl
  ·rw [h.2.2.2.2, h'.2.2.2.2, if_neg (by omega), if_neg (by omega), if_neg (by omega)]
   rfl
 ·rw [Zee (fun h => hr (cmpI_zero.1 h)), Zee (fun h => hr (cmpI_zero.1 h))]
theorem Ymw {p q : PEV} (h : Yf8 p ≠ Yf8 q) : Zj4 p q = false := by
 cases p <;> cases q <;> first | rfl | exact absurd rfl h
theorem Ymt {x y : EV} (hx : JPE (Zc2 x)) (hy : JPE (Zc2 y)) : Zj4 (Zc2 x) (Zc2 y) = eqE x y := by
 unfold eqE
 by_cases hr : rkE x = rkE y
 ·rw [if_neg (by simpa using hr)]
  rcases Zgm x with h | h | h | h <;> rcases Zgm y with h' | h' | h' | h' <;> first
   | (exfalso; omega)
   | skip
  ·rw [h.2.2, h'.2.2, if_pos h.2.1]
   show Ze7 Yg8 _ _ = _
   rw [Zls, Zls]
   exact Zyk _ fun f hf g hg => by
    show (decide _ && eqJ (Za2 f.2) (Za2 g.2)) = (decide _ && _)
    rw [Yqn (Zuw hx h.2.2 f hf) (Zuw hy h'.2.2 g hg)]
  ·rw [h.2.2, h'.2.2, if_neg (by omega), if_pos h.2.1]
   rw [h.2.2] at hx
   rw [h'.2.2] at hy
   exact Yqn hx hy
  ·rw [h.2.2, h'.2.2, if_neg (by omega), if_neg (by omega), if_pos h.2.1]
   rfl
  ·rw [h.2.2.2.2, h'.2.2.2.2, if_neg (by omega), if_neg (by omega), if_neg (by omega)]
   rfl
 ·rw [if_pos hr]
  exact Ymw (by rw [Yj1, Yj1]; exact hr)
theorem Ypv {x : EV} (h : JPE (Zc2 x)) (h1 : Zjg (Za1 x).v = true) (h2 : Zmo (Za1 x).l = true) : OPE (Zc2 x) := by
 rcases Zgm x with k | k | k | k
 ·rw [k.2.2] at h ⊢
  intro f hf
  rw [Zls] at hf
  obtain ⟨g, hg, rfl⟩ := List.mem_map.1 hf
  have hj : JOk (Za2 g.2) := Zuw (by rw [k.2.2]; exact h) k.2.2 g hg
  refine ⟨hj, Ypu _ hj ?_⟩
  rw [Zd9]
  rw [show (Za1 x).l = Zcp (x.l.take (min x.keys.length x.l.length)) by unfold Za1; rw [if_pos k.1]] at h2
  refine ordL_iff.1 h2 _ ?_
  unfold kvE at hg
  obtain ⟨i, hi⟩ := List.getElem?_of_mem hg
  rw [List.getElem?_zip_eq_some] at hi
  have b1 := (List.getElem?_eq_some_iff.1 hi.1).1
  have b2 := (List.getElem?_eq_some_iff.1 hi.2).1
  refine List.mem_of_getElem? (i := i) ?_
  rw [Ztd, List.getElem?_take_of_lt (by omega), hi.2]
  rfl
 ·rw [k.2.2] at h ⊢
  refine ⟨h, Ypu _ h ?_⟩
  rw [Zd9]
  rwa [show (Za1 x).v = Zat x.v by unfold Za1; rw [if_neg (by omega), if_pos k.1]] at h1
 ·rw [k.2.2]; trivial
 ·rw [k.2.2.2.2]; trivial
def Yot (ks : List ByteArray) : List ByteArray := ks.foldr (fun k l => Zol l l k k) []
theorem Zpj : ∀ ks : List ByteArray, Zfx (Yot ks)
 | [] => List.Pairwise.nil
 | k :: r => Zuj (Zpj r) k
theorem Yd1 {α : Type} {ks : List ByteArray} {l : List α} {k : ByteArray} {x y : α} (h : y ∈ Zol ks l k x) : y = x ∨ y ∈ l := by
 unfold Zol at h
 simp only [List.mem_append, List.mem_cons, List.not_mem_nil, or_false] at h
 rcases h with (h | h) | h
 ·exact .inr (List.mem_of_mem_take h)
 ·exact .inl h
 ·exact .inr (List.mem_of_mem_drop h)
theorem Yd2 {l : List ByteArray} {k x : ByteArray} : x ∈ Zol l l k k ↔ x = k ∨ x ∈ l := by
 constructor
 ·exact Yd1
 ·intro h
  unfold Zol
  rcases h with rfl | h
  ·simp
  ·by_cases e : x = k
   ·subst e; simp
   ·rw [List.mem_append, List.mem_append]
    rw [← List.take_append_drop (lb l k) l, List.mem_append] at h
    rcases h with h | h
    ·exact .inl (.inl h)
    ·cases hh : Zfz l k with
     | false => exact .inr (by simpa using h)
     | true =>
      unfold Zfz at hh
      simp only [decide_eq_true_eq] at hh
      obtain ⟨h1, h2⟩ := List.getElem?_eq_some_iff.1 hh
      rw [List.drop_eq_getElem_cons h1, h2, List.mem_cons] at h
      rcases h with h | h
      ·exact absurd h e
      ·exact .inr h
theorem Zs2 : ∀ (ks : List ByteArray) (x : ByteArray), x ∈ Yot ks ↔ x ∈ ks
 | [], x => Iff.rfl
 | k :: r, x => by
  show x ∈ Zol (Yot r) (Yot r) k k ↔ _
  rw [Yd2, Zs2 r x, List.mem_cons]
theorem Zlw {l : List ByteArray} (h : Zfx l) : l.Nodup := List.Pairwise.imp (fun h e => by subst e; rw [Zbb] at h; cases h) h
theorem Zvo (m : List (ByteArray × JV)) : PCall Tryz.prog 197 [Zip m] (.sl 1 16 (pdS (Yot (m.map (·.1))))) := by
 refine PCall.ex fun w F vs hv => ?_
 obtain ⟨hm, hl⟩ : (m.map (·.1)).Nodup ∧ m.length * 88 ≤ 140737488351232 := by
  unfold Reps at hv
  obtain ⟨v, r, _, h, _⟩ := hv
  unfold Zip Rep at h
  obtain ⟨_, _, _, _, _, _, _, _, _, h⟩ := h
  unfold JOk at h
  exact ⟨h.1, h.2.1⟩
 clear hv
 refine Zaa Tryz.func197 rfl Tryz.ntmps197 rfl (fun X => ?_)
 refine wk ?_
 refine Zja 3 100 9 1 16 rfl rfl ?_
 refine Zap (ι := { q : List (ByteArray × JV) × List ByteArray // (q.1.map (·.1)).Nodup ∧ (∀ y ∈ q.1, y ∈ m) ∧ Zfx q.2 ∧ (∀ k, k ∈ q.2 ↔ k ∈ q.1.map (·.1)) })
  (fun q => [(3, .own 100), (7, .own 7)])
  (fun q => [(7, .res (itR m q.1.1)), (100, .row 9 1 16 (pdS q.1.2))])
  (fun q => m.length - q.1.1.length) ⟨([], []), by simp, by simp, List.Pairwise.nil, by simp⟩ id ?_ ?_
 ·exact sb
 rintro ⟨⟨done, l⟩, hnd, hsub, hi, hmem⟩
 simp only at hnd hsub hi hmem ⊢
 have hlen : l.length = done.length := by
  have := ((List.perm_ext_iff_of_nodup (Zlw hi) hnd).2 hmem).length_eq
  simpa using this
 refine wk ?_
 refine Zr8 rfl rfl rfl (fun hev => ?_) (fun y hy hny => ?_)
 ·have e : l = Yot (m.map (·.1)) := Zr0 hi (Zpj _) fun k => by
   rw [Zs2, hmem]
   exact (Zrd hm hnd hsub hev).mem_iff
  rw [← e]
  refine Zba (fun _ => false) (fun k => k == 100) ?_
  exact wke
 ·have hml := Zse hnd hsub hy hny
  have hnk : y.1 ∉ l := fun h => hny ((hmem _).1 h)
  have n1 := Zb3 l
  have hL : (pdS l ++ [PD.val (.string y.1)]).length = l.length + 1 := by simp [n1]
  have hz : ((l.length + 1 : Nat) : Int) - 1 = ((l.length : Nat) : Int) := by omega
  have hA : pdS l ++ [PD.val (.string y.1)] = pdS (Zfn l l.length y.1) := by rw [Ydz]; simp [pdS]
  refine wk ?_
  refine Zap (ι := { i : Nat // i ≤ l.length ∧ ∀ x ∈ l.drop i, blt y.1 x = true })
   (fun i => [(3, .own 100), (5, .dat (.val (.int .i64 (i.1 : Nat)))), (7, .own 7)])
   (fun i => [(7, .res (itR m (done ++ [y]))), (100, .row 9 1 16 (pdS (Zfn l i.1 y.1)))])
   (fun i => i.1) ⟨l.length, Nat.le_refl _, by simp⟩ (fun j => if j = 100 then 15 else j) ?_ ?_
  ·rw [hL, hA]
   simp only [hz]
   exact sb
  rintro ⟨i, hil, hd⟩
  have hins := Zuh l y.1 hil
  have n2 := Zb3 (Zfn l i y.1)
  by_cases h0 : 0 < i
  ·have g1 : decide ((0 : Int) < (i : Int)) = true := decide_eq_true (by omega)
   obtain ⟨a, ha⟩ : ∃ a, l[i - 1]? = some a := ⟨_, List.getElem?_eq_getElem (by omega)⟩
   have q1 : (pdS (Zfn l i y.1))[i]? = some (.val (.string y.1)) := Zfp (Yin l y.1 hil)
   have q2 : (pdS (Zfn l i y.1))[i - 1]? = some (.val (.string a)) := Zfp (by
    have := Zug l y.1 (p := i - 1) (by omega)
    rw [show i - 1 + 1 = i by omega] at this
    rw [this, ha])
   have l1 : i < (pdS (Zfn l i y.1)).length := by omega
   have l2 : i - 1 < (pdS (Zfn l i y.1)).length := by omega
   have z1 : (i : Int) = ((i : Nat) : Int) := rfl
   have z2 : (i : Int) - 1 = ((i - 1 : Nat) : Int) := by omega
   cases hb : blt y.1 a with
   | true =>
    have e : ((pdS (Zfn l i y.1)).set i (.val (.string a))).set (i - 1) (.val (.string y.1)) = pdS (Zfn l (i - 1) y.1) := by
     have h1 := Ya0 l y.1 a (p := i - 1) (by omega) ha
     rw [show i - 1 + 1 = i by omega] at h1
     rw [← h1]
     simp [pdS, List.map_set]
    refine wk ?_
    refine Zae ?_
    refine ⟨⟨i - 1, by omega, fun x hx => ?_⟩, id, by simp only; omega, ?_⟩
    ·have hdd : l.drop (i - 1) = a :: l.drop i := by
      rw [List.drop_eq_getElem_cons (by omega), show i - 1 + 1 = i by omega]
      congr 1
      exact (List.getElem?_eq_some_iff.1 ha).2
     rw [hdd] at hx
     rcases List.mem_cons.1 hx with rfl | hx
     ·exact hb
     ·exact hd x hx
    simp only [← e, ← z2]
    exact sb
   | false =>
    refine wk ?_
    refine Zae ?_
    refine ⟨⟨(done ++ [y], Zfn l i y.1), Zsf hnd hny, Zng hsub hy, Zqg hi hd fun x hx => ?_, fun k => ?_⟩, id, by simp only [List.length_append, List.length_cons, List.length_nil]; omega, ?_⟩
    ·obtain ⟨j, hj⟩ := List.getElem?_of_mem hx
     have hji : j < i := by have := (List.getElem?_eq_some_iff.1 hj).1; simp at this; omega
     rw [List.getElem?_take, if_pos hji] at hj
     have hxl := List.mem_of_getElem? hj
     have h1 : blt x a = true ∨ x = a := by
      rcases Zok hi (show j ≤ i - 1 by omega) hj ha with h | h
      ·exact .inr h
      ·exact .inl h
     have h2 : blt a y.1 = true := by
      cases h3 : blt a y.1 with
      | true => rfl
      | false => exact absurd (Zf8 h3 hb) fun e => hnk (e ▸ List.mem_of_getElem? ha)
     rcases h1 with h1 | rfl
     ·exact Zca h1 h2
     ·exact h2
    ·rw [Zui, hmem, List.map_append, List.mem_append]
     simp [or_comm]
    exact sb
  ·obtain rfl : i = 0 := by omega
   have g1 : decide ((0 : Int) < ((0 : Nat) : Int)) = false := decide_eq_false (by omega)
   refine wk ?_
   refine Zae ?_
   refine ⟨⟨(done ++ [y], Zfn l 0 y.1), Zsf hnd hny, Zng hsub hy, Zqg hi hd (by simp), fun k => ?_⟩, id, by simp only [List.length_append, List.length_cons, List.length_nil]; omega, ?_⟩
   ·rw [Zui, hmem, List.map_append, List.mem_append]
    simp [or_comm]
   exact sb
section
variable {P : Program} {X : Base} {N : Nat} {Q : Exit → Act → World → Prop} {s s' : Sta} {w : World}
theorem Ygf {t kt et r cl : Nat} {es : Array MapEntry} {k : ByteArray} (hm : P.underlying t = some (.map kt et)) (hd : P.underlying kt = some .string)
  (hb : w.heap[r]? = some (.map es cl)) (hs : MapKept.Stamped es cl) (hks : ∀ x ∈ es.toList, MapKept.IsKey .string x.key) {e : MapEntry} (he : e ∈ es.toList) (hke : e.key = .string k) :
  (Instr.lookup t (.map (some r)) (.string k) false).run P w = .ok e.val w := by
 have hk : MapKept.IsKey .string (.string k) := trivial
 rcases MapKept.findNow_spec hk es.toList 0 hks with ⟨h1, h2⟩ | ⟨j, e', h1, h2, h3⟩
 ·exact absurd hke (h2 e he)
 ·obtain rfl : e' = e := Yek hs.2.2 (List.mem_of_getElem? h2) he (h3.trans hke.symm)
  simp [Instr.lookup, run_underlying hm, MapKept.run_getObj_map hb, MapKept.run_checkKey hd hk, MapKept.run_findKey hd h1, Result.andThen]
theorem Yfd {o : Oper} (hd : Za8 X.N o.dst = true) {x y : Operand} {t : TypeId} (ho : o.op = .lookup t x y false) {kt et : Nat} (ht : MTI P t kt et) {m : List (ByteArray × JV)} {k : ByteArray} {j : JV} (hx : s.ev x = .dat (Zip m)) (hy : s.ev y = .dat (.val (.string k))) (hj : lkJ m k = some j) :
  OpS P X o s (s.put o.dst (.dat (pdJ j))) := by
 refine Zas hd fun a w ρ hc => ?_
 have h2 := hc.ev x
 rw [hx] at h2
 unfold VR Zip Rep at h2
 have h3 := hc.ev y
 rw [hy] at h3
 unfold VR Rep at h3
 obtain ⟨b, es, cl, e1, hb, hh, hs, hl, he, hok⟩ := h2
 rcases he.lk (k := k) with ⟨j', e, h4, h5, h6, h7, h8⟩ | ⟨h4, h5⟩
 ·rw [hj] at h4
  cases h4
  refine ⟨e.val, by simp [execOp, ho, e1, h3.1, Ygf (Zis ht.out) ht.str hh hs he.keys h5 h6], ?_⟩
  unfold VR pdJ Rep
  exact ⟨h7, Zes (by unfold JOk at hok; exact hok.2.2) _ h8⟩
 ·rw [hj] at h4; cases h4
theorem Yh1 {ops : List Oper} {d : Nat} {x y : Operand} {t kt et : Nat} {m : List (ByteArray × JV)} {k : ByteArray} {j : JV} (hN : Nat.blt d N = true) (hx : s.ev x = .dat (Zip m)) (hy : s.ev y = .dat (.val (.string k))) [ht : MTI P t kt et] (hj : lkJ m k = some j) :
  TrK P X N ops (some d) (.lookup t x y false) (Eff.put (some d) (.dat (pdJ j))) s (s.put (some d) (.dat (pdJ j))) := Zbh hN fun s' _ _ _ _ hd hev htb => Yfd hd rfl ht ((hev _ (by simp [Op.operands])).trans hx) ((hev _ (by simp [Op.operands])).trans hy) hj
end
theorem Yk7 : ∀ {m : List (ByteArray × JV)} {k : ByteArray}, k ∈ m.map (·.1) → ∃ j, lkJ m k = some j ∧ Zc0 m k = some j ∧ (k, j) ∈ m
 | [], k, h => by cases h
 | x :: r, k, h => by
  unfold lkJ Zc0
  by_cases e : x.1 = k
  ·rw [if_pos e, if_pos e]; exact ⟨_, rfl, rfl, by rw [← e]; simp⟩
  ·rw [if_neg e, if_neg e]
   rw [List.map_cons, List.mem_cons] at h
   obtain ⟨j, h1, h2, h3⟩ := Yk7 (h.resolve_left fun h => e h.symm)
   exact ⟨j, h1, h2, by simp [h3]⟩
theorem Ykl (l : List JV) : Zgr l = l.map unJ := by
 induction l with
 | nil => unfold Zgr; rfl
 | cons x r ih => unfold Zgr; rw [ih]; rfl
theorem Zj0 {f : FuncId} {j : JV} {r : PD} (h : PCall Tryz.prog f [dvX j] r) : PCall Tryz.prog f [pdJ j] r := h.le fun _ _ _ hv => Reps.cons1 (Ykx j) hv
theorem Yqu (b : Bool) : PCall Tryz.prog 134 [pdJ (.bool b)] (qV (unJ (.bool b))) := by
 refine Zj0 ?_
 unfold dvX unJ gv qV
 cases b
 all_goals
  refine Zaa Tryz.func134 rfl Tryz.ntmps134 rfl (fun X => ?_)
  exact wke
theorem Yqz : PCall Tryz.prog 134 [pdJ .null] (qV (unJ .null)) := by
 refine Zj0 ?_
 unfold dvX unJ Zdi qV
 refine Zaa Tryz.func134 rfl Tryz.ntmps134 rfl (fun X => ?_)
 exact wke
theorem Yqw (n : Int) : PCall Tryz.prog 134 [pdJ (.int n)] (qV (unJ (.int n))) := by
 refine Zj0 ?_
 unfold dvX unJ gv qV
 refine Zaa Tryz.func134 rfl Tryz.ntmps134 rfl (fun X => ?_)
 exact wke
theorem Yqv (n : Nat) : PCall Tryz.prog 134 [pdJ (.flt n)] (qV (unJ (.flt n))) := by
 refine Zj0 ?_
 unfold dvX unJ gv qV
 refine Zaa Tryz.func134 rfl Tryz.ntmps134 rfl (fun X => ?_)
 exact wke
theorem Yq0 (n : ByteArray) : PCall Tryz.prog 134 [pdJ (.str n)] (qV (unJ (.str n))) := by
 refine Zj0 ?_
 unfold dvX unJ gv qV
 refine Zaa Tryz.func134 rfl Tryz.ntmps134 rfl (fun X => ?_)
 exact wke
theorem Yqx (l : List JV) (ih : ∀ y ∈ l, PCall Tryz.prog 134 [pdJ y] (qV (unJ y))) : PCall Tryz.prog 134 [pdJ (.list l)] (qV (unJ (.list l))) := by
 refine PCall.ex fun w F vs hv => ?_
 have hl : l.length * 88 ≤ 140737488351232 := by
  unfold Reps at hv
  obtain ⟨v, r, _, h, _⟩ := hv
  unfold pdJ Rep at h
  have h := h.2
  unfold JOk at h
  exact h.1
 clear hv
 refine Zj0 ?_
 have e : unJ (.list l) = .mk 5 0 0 ByteArray.empty [] (Zgr l) := by unfold unJ; rfl
 rw [e]
 unfold dvX
 refine Zaa Tryz.func134 rfl Tryz.ntmps134 rfl (fun X => ?_)
 refine wk ?_
 refine Zdd 8 5 100 27 6 88 rfl rfl rfl ?_
 refine Zap (ι := { k : Nat // k ≤ l.length })
  (fun k => [(2, .ptr 2 0), (8, .ptr 8 0), (41, .dat (Zj3 l)), (42, .dat (.val (.int .i64 (l.length : Nat)))), (43, .dat (.val (.int .i64 (k.1 : Nat))))])
  (fun k => [(2, .box 27 (Zaq (qV Zdi))), (8, .box 27 [.dat (.val (.int .i64 5)), .dat (.val (.int .i64 0)), .dat (.val (.float .f64 0)), .dat (.val (.string ⟨#[]⟩)), .dat (.val (.slice none 0 0)), .own 100]), (100, .row 27 6 88 ((l.take k.1).map fun x => qV (unJ x)))]) (fun k => l.length - k.1) ⟨0, Nat.zero_le _⟩ id ?_ ?_
 ·exact sb
 rintro ⟨k, hk⟩
 by_cases hlt : k < l.length
 ·have hc : decide ((k : Int) < ((l.length : Nat) : Int)) = true := decide_eq_true (by omega)
  obtain ⟨x, hx⟩ : ∃ x, l[k]? = some x := ⟨_, List.getElem?_eq_getElem hlt⟩
  have c := ih x (List.mem_of_getElem? hx)
  have hbt : (((l.take k).map fun x => qV (unJ x)).length + [qV (unJ x)].length) * 88 ≤ 140737488351232 := by simp; omega
  have hbl : ((l.take k).map fun x => qV (unJ x)).length + [qV (unJ x)].length ≤ 140737488351232 := by simp; omega
  have e : ((l.take (k + 1)).map fun x => qV (unJ x)) = ((l.take k).map fun x => qV (unJ x)) ++ [qV (unJ x)] := by simp [List.take_add_one, hx]
  generalize ((l.take k).map fun x => qV (unJ x)) = da at *
  unfold qV at *
  refine wk ?_
  refine Zae ?_
  refine ⟨⟨k + 1, by omega⟩, (fun j => if j = 100 then 52 else j), by simp only; omega, ?_⟩
  rw [e]
  exact sb
 ·have hc : decide ((k : Int) < ((l.length : Nat) : Int)) = false := decide_eq_false (by omega)
  have hkk : l.take k = l := List.take_of_length_le (by omega)
  simp only [hkk]
  refine wk ?_
  refine Zba (fun _ => false) (fun k => k == 100) ?_
  have e : Zb6 (Zgr l) = l.map fun x => qV (unJ x) := by rw [Zg6, Ykl, List.map_map]; exact List.map_congr_left fun x _ => Zsn _
  unfold qV
  simp only [GV.kind, GV.n, GV.f, GV.s, GV.keys, GV.l]
  rw [e]
  exact wke
theorem Yqy (m : List (ByteArray × JV)) (ih : ∀ y ∈ m, PCall Tryz.prog 134 [pdJ y.2] (qV (unJ y.2))) : PCall Tryz.prog 134 [pdJ (.map m)] (qV (unJ (.map m))) := by
 refine PCall.ex fun w F vs hv => ?_
 obtain ⟨hd, hl⟩ : (m.map (·.1)).Nodup ∧ m.length * 88 ≤ 140737488351232 := by
  unfold Reps at hv
  obtain ⟨v, r, _, h, _⟩ := hv
  unfold pdJ Rep at h
  have h := h.2
  unfold JOk at h
  exact ⟨h.1, h.2.1⟩
 clear hv
 refine Zj0 ?_
 have c0 := Zvo m
 have hi := Zpj (m.map (·.1))
 have hm := Zs2 (m.map (·.1))
 rw [Yby hd hi hm]
 generalize hks : Yot (m.map (·.1)) = ks at *
 have hkl : ks.length = m.length := by
  have := ((List.perm_ext_iff_of_nodup (Zlw hi) hd).2 hm).length_eq
  simpa using this
 have n1 := Zb3 ks
 have e0 : ∀ k, (Zmu m (ks.take k)) = (ks.take k).map fun k => unJ ((Zc0 m k).getD .null) := fun _ => rfl
 unfold dvX
 refine Zaa Tryz.func134 rfl Tryz.ntmps134 rfl (fun X => ?_)
 refine wk ?_
 refine Zdd 12 5 100 27 6 88 rfl rfl rfl ?_
 refine Zap (ι := { k : Nat // k ≤ ks.length })
  (fun k => [(2, .ptr 2 0), (11, .dat (Zip m)), (12, .ptr 12 0), (64, .dat (.sl 1 16 (pdS ks))), (65, .dat (.val (.int .i64 ((pdS ks).length : Nat)))), (66, .dat (.val (.int .i64 (k.1 : Nat))))])
  (fun k => [(2, .box 27 (Zaq (qV Zdi))), (12, .box 27 [.dat (.val (.int .i64 6)), .dat (.val (.int .i64 0)), .dat (.val (.float .f64 0)), .dat (.val (.string ⟨#[]⟩)), .dat (.sl 1 16 (pdS ks)), .own 100]), (100, .row 27 6 88 ((ks.take k.1).map fun k => qV (unJ ((Zc0 m k).getD .null))))]) (fun k => ks.length - k.1) ⟨0, Nat.zero_le _⟩ id ?_ ?_
 ·exact sb
 rintro ⟨k, hk⟩
 by_cases hlt : k < ks.length
 ·have hc : decide ((k : Int) < (((pdS ks).length : Nat) : Int)) = true := decide_eq_true (by omega)
  obtain ⟨key, hx⟩ : ∃ x, ks[k]? = some x := ⟨_, List.getElem?_eq_getElem hlt⟩
  have i1 : (pdS ks)[((k : Nat) : Int).toNat]? = some (.val (.string key)) := Zfp hx
  obtain ⟨j, hj1, hj2, hj3⟩ := Yk7 ((hm key).1 (List.mem_of_getElem? hx))
  have c := ih (key, j) hj3
  have e : ((ks.take (k + 1)).map fun k => qV (unJ ((Zc0 m k).getD .null))) = ((ks.take k).map fun k => qV (unJ ((Zc0 m k).getD .null))) ++ [qV (unJ j)] := by simp [List.take_add_one, hx, hj2]
  have hbt : (((ks.take k).map fun k => qV (unJ ((Zc0 m k).getD .null))).length + [qV (unJ j)].length) * 88 ≤ 140737488351232 := by simp; omega
  have hbl : ((ks.take k).map fun k => qV (unJ ((Zc0 m k).getD .null))).length + [qV (unJ j)].length ≤ 140737488351232 := by simp; omega
  generalize ((ks.take k).map fun k => qV (unJ ((Zc0 m k).getD .null))) = da at *
  unfold qV at *
  refine wk ?_
  refine Zcg (Yh1 rfl rfl rfl hj1) ?_
  refine wk ?_
  refine Zae ?_
  refine ⟨⟨k + 1, by omega⟩, (fun j => if j = 100 then 77 else j), by simp only; omega, ?_⟩
  rw [e]
  exact sb
 ·have hc : decide ((k : Int) < (((pdS ks).length : Nat) : Int)) = false := decide_eq_false (by omega)
  have hkk : ks.take k = ks := List.take_of_length_le (by omega)
  simp only [hkk]
  refine wk ?_
  refine Zba (fun _ => false) (fun k => k == 100) ?_
  have e : Zb6 (Zmu m ks) = ks.map fun k => qV (unJ ((Zc0 m k).getD .null)) := by rw [Zg6]; unfold Zmu; rw [List.map_map]; exact List.map_congr_left fun x _ => Zsn _
  unfold qV
  simp only [GV.kind, GV.n, GV.f, GV.s, GV.keys, GV.l]
  rw [e]
  exact wke
theorem Zlt : ∀ (j : JV), PCall Tryz.prog 134 [pdJ j] (qV (unJ j))
 | .null => Yqz
 | .bool b => Yqu b
 | .int n => Yqw n
 | .flt n => Yqv n
 | .str s => Yq0 s
 | .list l => Yqx l fun y _ => Zlt y
 | .map m => Yqy m fun y hy => by
  have : SizeOf.sizeOf y.2 < 1 + SizeOf.sizeOf m := by
   have h1 := List.sizeOf_lt_of_mem hy
   have h2 : SizeOf.sizeOf y.2 < SizeOf.sizeOf y := by obtain ⟨a, b⟩ := y; simp; omega
   omega
  exact Zlt y.2
end Go.Proofs.YtgmahieoiifpfaaGreat
